import JvmDerived
import JvmDerived.Pilot.@@N@@Statement
import JvmDerived.Pilot.@@N@@Code
set_option linter.unusedVariables false
set_option linter.unusedSimpArgs false
namespace Jvm.Pilot.@@N@@
open Jvm Jvm.ClassFile Sem Op Lib Jvm.Free Jvm.Stand Jvm.LawKit Jvm.RoadKit Bundle Jvm.Free.Fl Jvm.Pilot.@@N@@.Jvm.D
theorem own_w {a0 : Array Value} {Z : State} (hw : ∀ d ∈ tables_1, d.before a0 Z = true) (i : Nat) {d : Jvm.Cond} (h : tables_1[i]? = some d) : d.before a0 Z = true := hw _ (List.mem_of_getElem? h)
abbrev own_S (p : Program) (e : Env) (below : List Frame) (T : State) (m : MethodId) (pc : Nat) (Ls : Array Slot) (st : List Value) (t : State) : Prop := Steps p.tables e below (T.setTop (mkF m pc Ls st)) t
section Re
variable {tb : Tables} {e : Env} {below : List Frame} {T target : State} {m : MethodId} {pc : Nat} {Ls : Array Slot} {rest : List Value}
theorem reI {x y : Int32} (h : x = y) (k : Steps tb e below (T.setTop (mkF m pc Ls (.int y :: rest))) target) : Steps tb e below (T.setTop (mkF m pc Ls (.int x :: rest))) target := by rw [h]; exact k
theorem reJ {x y : Int64} (h : x = y) (k : Steps tb e below (T.setTop (mkF m pc Ls (.long y :: rest))) target) : Steps tb e below (T.setTop (mkF m pc Ls (.long x :: rest))) target := by rw [h]; exact k
theorem reD {x y : UInt64} (h : x = y) (k : Steps tb e below (T.setTop (mkF m pc Ls (.double y :: rest))) target) : Steps tb e below (T.setTop (mkF m pc Ls (.double x :: rest))) target := by rw [h]; exact k
theorem re2I {v : Value} {x y : Int32} (h : x = y) (k : Steps tb e below (T.setTop (mkF m pc Ls (v :: .int y :: rest))) target) : Steps tb e below (T.setTop (mkF m pc Ls (v :: .int x :: rest))) target := by rw [h]; exact k
theorem own_nnl {e v : UInt64} (h : e = v) (hv : NoNaN64 v) : NoNaN64 e := h ▸ hv
end Re
def own_hd (d : UInt64) : Int32 := ((d.toInt64 ^^^ ((d.toInt64.toUInt64 >>> ((32 : Int32) &&& 0x3f).toInt64.toUInt64).toInt64)).toInt32)
def own_hash (a b : UInt64) : Int32 := ((31 : Int32) * (own_hd a)) + (own_hd b)
def own_cmpD (a b : UInt64) : Int32 := if (cmpValue (FP.dcmp a b) .g) < (0 : Int32) then -1 else if (0 : Int32) < (cmpValue (FP.dcmp a b) .l) then 1 else if (lcmpW (a.toInt64) (b.toInt64)) = (0 : Int32) then 0 else if (lcmpW (a.toInt64) (b.toInt64)) < (0 : Int32) then -1 else 1
def own_eq (a b c d : UInt64) : Int32 := if own_cmpD a c = (0 : Int32) then (if own_cmpD b d = (0 : Int32) then 1 else 0) else 0
theorem own_abs {x : UInt64} (h : Fin64 x) : ¬ ((0 : Int32) < (cmpValue (FP.dcmp (x &&& 0x7fffffffffffffff) (9218868437227405311 : UInt64)) .g)) := by
  have h1 := (le_max_iff h.noNaN).mpr h
  rw [relLe_iff] at h1
  rcases h1 with q | q
  · rw [show FP.dcmp (x &&& 0x7fffffffffffffff) (9218868437227405311 : UInt64) = some .lt from q]; decide
  · rw [show FP.dcmp (x &&& 0x7fffffffffffffff) (9218868437227405311 : UInt64) = some .eq from q]; decide
theorem own_cmp0 {a b : UInt64} (h : own_cmpD a b = 0) : a = b := by
  unfold own_cmpD at h
  split at h
  · exact absurd h (by decide)
  · split at h
    · exact absurd h (by decide)
    · split at h
      · rename_i q
        have e := (lw_eq _ _).mp q
        have := congrArg Int64.toUInt64 e
        simpa using this
      · split at h <;> exact absurd h (by decide)
theorem own_cmpS {a : UInt64} (h : NoNaN64 a) : own_cmpD a a = 0 := by
  unfold own_cmpD
  rw [dcmpV_self h, dcmpV_self h, if_neg (by decide), if_neg (by decide), if_pos ((lw_eq _ _).mpr rfl)]
theorem own_eqS {a b : UInt64} (ha : NoNaN64 a) (hb : NoNaN64 b) : own_eq a b a b = 1 := by unfold own_eq; rw [if_pos (own_cmpS ha), if_pos (own_cmpS hb)]
theorem own_eq1 {a b c d : UInt64} (h : ¬ own_eq a b c d = 0) : a = c ∧ b = d := by
  unfold own_eq at h
  split at h
  · split at h
    · rename_i q1 q2; exact ⟨own_cmp0 q1, own_cmp0 q2⟩
    · exact absurd rfl h
  · exact absurd rfl h

theorem pd0 : parseMethodDescriptor "(D)D" = some ⟨[.double], some .double⟩ := by decide +kernel
theorem d3_0 : decode jdk_117_method_8_code 0 = .ok (.dload_n 0, 1) := by decide +kernel
theorem d3_1 : decode jdk_117_method_8_code 1 = .ok (.invokestatic 38, 3) := by decide +kernel
theorem d3_4 : decode jdk_117_method_8_code 4 = .ok (.ldc2_w 111, 3) := by decide +kernel
theorem d3_7 : decode jdk_117_method_8_code 7 = .ok (.dcmp .g, 1) := by decide +kernel
theorem d3_8 : decode jdk_117_method_8_code 8 = .ok (.ifCond .gt 7, 3) := by decide +kernel
theorem d3_11 : decode jdk_117_method_8_code 11 = .ok (.iconst 1, 1) := by decide +kernel
theorem d3_12 : decode jdk_117_method_8_code 12 = .ok (.goto 4, 3) := by decide +kernel
theorem d3_16 : decode jdk_117_method_8_code 16 = .ok (.ireturn, 1) := by decide +kernel
theorem pn0 : plainName "java/lang/Double" = true := by first | (simp [plainName, overriddenIn]; done) | decide +kernel
theorem efm3 (m : MethodId) (d0 : UInt64) : entryFrame m #[(.double d0)] 2 = mkF m 0 #[.val (.double d0), .second] [] := by first | (simp [entryFrame, mkF, argsToLocals, Value.category]; done) | rfl
def Qm3 (Z : State) (d0 : UInt64) (h0 : Heap) (n0 : Nat) (v : Option Value) (h : Heap) (L : List Loc) : Prop := v = some (.int 1) ∧ Fr n0 L ∧ (h = h0)
set_option maxRecDepth 65536 in
set_option maxHeartbeats 40000000 in
theorem rmm3 (l : Launch) (Z : State) (a0 : Array Value) (hw : ∀ d ∈ tables_1, d.before a0 Z = true) (ws : List Jvm.Cond) (d0 : UInt64) (h0 : Heap) (n0 : Nat) (Z0 : n0 ≤ h0.size) (hf : Fin64 d0) :
    MetFree l (⟨"java/lang/Double", "isFinite", "(D)Z"⟩ : MethodName) (head1 (Jvm.Cond.code (⟨"java/lang/Double", "isFinite", "(D)Z"⟩ : MethodName) jdk_117_method_8_code 2 (some .boolean) :: ws) ({ frames := 1, cells := 0, slots := 0, locals := 13 } : Room)) (fun a U => a = #[(.double d0)] ∧ Z.Warmed39 U.vm ∧ U.heap = h0) (fun _ _ _ _ _ => True) (fun _ U o U' => ∃ v L, o = .returned v ∧ Qm3 Z d0 h0 n0 v U'.heap L ∧ FrameEnd U o U' L ({ frames := 1, cells := 0, slots := 0, locals := 13 } : Room).cells ({ frames := 1, cells := 0, slots := 0, locals := 13 } : Room).slots) := by
  refine MetFree.of_bodySF (plainFor_of_name pn0) hisR ?_
  intro p e s m args below meth c s₁ Bd hml0 hP hK
  obtain ⟨rfl, hZ, hh⟩ := hP
  have hx := Bd.exec
  have hby := Bd.bytes
  have hml : c.maxLocals = 2 := hml0
  have hown : s.vm.findClass "java/lang/Double" = some m.cls := findClass_of_methodNamed Bd.named
  have hnm := (name_of_methodNamed Bd.named Bd.method).1
  have X0 : Stand p l e ({ frames := 1, cells := 0, slots := 0, locals := 13 } : Room) s m #[(.double d0)] below meth c s₁ [] 0 0 := Stand.of_body Bd
  have e0 : s₁.heap = h0 := by rw [← hh, Bd.state]; rfl
  have N0 := Fr.nil n0
  have pre0 : ∀ t, Steps p.tables e below (s₁.setTop (mkF m 0 #[.val (.double d0), .second] [])) t → Steps p.tables e below (s₁.setTop (entryFrame m #[(.double d0)] 2)) t := fun t k => castTop (efm3 m d0) k
  obtain ⟨T101, X101, e101, st101⟩ := natS X0 hx hZ hown (own_w hw 13 rfl) (own_w hw 14 rfl) (own_w hw 15 rfl) (own_w hw 16 rfl) (by decide) e0 (W := 0) (fun q => Jvm.Free.Fl.Abs.absD_pays d0 q (by decide) (by decide)) (g := (mkF m 1 #[.val (.double d0), .second] [(.double d0)])) rfl (by rw [hml]; rfl) (argsL := [(.double d0)]) (rest := []) (lenOf pd0 rfl) rfl (by show 2 * 0 + _ ≤ _; exact Nat.le_of_eq rfl) (hb hby d3_1) (by decide) (by decide) ⟨rfl, hf.noNaN⟩ rfl
  obtain ⟨fs, hr, hrun, hended, hW, hsame⟩ := X101.leave (v := some (.int 1)) (fun h => by rw [Bd.returns] at h; cases h)
  refine ⟨_, _, pre0 _ ?_, hrun, hended, _, _, rfl, ?_, ⟨_, rfl⟩, hW, hsame.mono (by decide) (by decide)⟩
  · show own_S p e below s₁ m 0 #[.val (.double d0), .second] [] _
    refine XS.dloadN X0.here hx rfl (hb hby d3_0) rfl ?_
    show own_S p e below s₁ m 1 #[.val (.double d0), .second] [(.double d0)] _
    refine st101 _ ?_
    show own_S p e below T101 m 4 #[.val (.double d0), .second] [(.double (d0 &&& 0x7fffffffffffffff))] _
    refine X101.ldc2DoubleC hx hown (mvT hZ (own_w hw 17 rfl)) (g := (mkF m 4 #[.val (.double d0), .second] [(.double (d0 &&& 0x7fffffffffffffff))])) rfl (hb hby d3_4) _ ?_
    show own_S p e below T101 m 7 #[.val (.double d0), .second] [(.double 9218868437227405311), (.double (d0 &&& 0x7fffffffffffffff))] _
    refine XS.dcmpS X101.here hx rfl (v := (cmpValue (FP.dcmp (d0 &&& 0x7fffffffffffffff) (9218868437227405311 : UInt64)) .g)) (hb hby d3_7) rfl rfl ?_
    show own_S p e below T101 m 8 #[.val (.double d0), .second] [(.int (cmpValue (FP.dcmp (d0 &&& 0x7fffffffffffffff) (9218868437227405311 : UInt64)) .g))] _
    refine XS.ifNo X101.here hx rfl (hb hby d3_8) rfl ((if0 _ _).trans (flt (own_abs hf : ¬ ((0 : Int32) < (cmpValue (FP.dcmp (d0 &&& 0x7fffffffffffffff) (9218868437227405311 : UInt64)) .g)))).2.2.1) ?_
    show own_S p e below T101 m 11 #[.val (.double d0), .second] [] _
    refine XS.iconst X101.here hx rfl (hb hby d3_11) ?_
    show own_S p e below T101 m 12 #[.val (.double d0), .second] [(.int 1)] _
    refine XS.goto X101.here hx rfl (pc0 := 12) (pc' := 16) rfl (hb hby d3_12) (by decide) (by decide) ?_
    show own_S p e below T101 m 16 #[.val (.double d0), .second] [(.int 1)] _
    exact retN X101 hx (t := .boolean) Bd.returns (by simp) (hb hby d3_16) hr
  · show Qm3 Z d0 h0 n0 _ T101.heap _
    rw [e101]
    exact ⟨rfl, N0, rfl⟩
theorem pd1 : parseMethodDescriptor "(D)Z" = some ⟨[.double], some .boolean⟩ := by decide +kernel
theorem sn0 {Z : State} {a0 : Array Value} (hw : ∀ d ∈ tables_1, d.before a0 Z = true) : Jvm.RoadKit.slotOf Z "com/example/minisum/minisum/Point" "y" "D" ≠ Jvm.RoadKit.slotOf Z "com/example/minisum/minisum/Point" "x" "D" := slot_ne (Or.inr (own_w hw 21 rfl)) (Or.inr (own_w hw 19 rfl)) (by decide) (t := .double) (t' := .double) (by decide) (by decide)
theorem sn1 {Z : State} {a0 : Array Value} (hw : ∀ d ∈ tables_1, d.before a0 Z = true) : Jvm.RoadKit.slotOf Z "com/example/minisum/minisum/Point" "x" "D" ≠ Jvm.RoadKit.slotOf Z "com/example/minisum/minisum/Point" "y" "D" := slot_ne (Or.inr (own_w hw 19 rfl)) (Or.inr (own_w hw 21 rfl)) (by decide) (t := .double) (t' := .double) (by decide) (by decide)
theorem d1_0 : decode prog_17_method_1_code 0 = .ok (.aload_n 0, 1) := by decide +kernel
theorem d1_1 : decode prog_17_method_1_code 1 = .ok (.invokespecial 1, 3) := by decide +kernel
theorem d1_4 : decode prog_17_method_1_code 4 = .ok (.dload_n 1, 1) := by decide +kernel
theorem d1_5 : decode prog_17_method_1_code 5 = .ok (.invokestatic 7, 3) := by decide +kernel
theorem d1_8 : decode prog_17_method_1_code 8 = .ok (.ifCond .eq 10, 3) := by decide +kernel
theorem d1_11 : decode prog_17_method_1_code 11 = .ok (.dload_n 3, 1) := by decide +kernel
theorem d1_12 : decode prog_17_method_1_code 12 = .ok (.invokestatic 7, 3) := by decide +kernel
theorem d1_15 : decode prog_17_method_1_code 15 = .ok (.ifCond .ne 18, 3) := by decide +kernel
theorem d1_33 : decode prog_17_method_1_code 33 = .ok (.aload_n 0, 1) := by decide +kernel
theorem d1_34 : decode prog_17_method_1_code 34 = .ok (.dload_n 1, 1) := by decide +kernel
theorem d1_35 : decode prog_17_method_1_code 35 = .ok (.putfield 22, 3) := by decide +kernel
theorem d1_38 : decode prog_17_method_1_code 38 = .ok (.aload_n 0, 1) := by decide +kernel
theorem d1_39 : decode prog_17_method_1_code 39 = .ok (.dload_n 3, 1) := by decide +kernel
theorem d1_40 : decode prog_17_method_1_code 40 = .ok (.putfield 28, 3) := by decide +kernel
theorem d1_43 : decode prog_17_method_1_code 43 = .ok (.return_, 1) := by decide +kernel
theorem pn1 : plainName "com/example/minisum/minisum/Point" = true := by first | (simp [plainName, overriddenIn]; done) | decide +kernel
theorem efm1 (m : MethodId) (r0 : Addr) (d1 : UInt64) (d2 : UInt64) : entryFrame m #[(.ref r0), (.double d1), (.double d2)] 5 = mkF m 0 #[.val (.ref r0), .val (.double d1), .second, .val (.double d2), .second] [] := by first | (simp [entryFrame, mkF, argsToLocals, Value.category]; done) | rfl
def Qm1 (Z : State) (r0 : Addr) (d1 : UInt64) (d2 : UInt64) (u0 : Value) (u1 : Value) (h0 : Heap) (n0 : Nat) (v : Option Value) (h : Heap) (L : List Loc) : Prop := v = none ∧ Fr n0 L ∧ (Keep h0 h [r0]) ∧ (Exa Z h r0 "com/example/minisum/minisum/Point") ∧ (Fld Z h r0 "com/example/minisum/minisum/Point" "x" "D" (.double d1)) ∧ (Fld Z h r0 "com/example/minisum/minisum/Point" "y" "D" (.double d2))
set_option maxRecDepth 65536 in
set_option maxHeartbeats 40000000 in
theorem rmm1 (l : Launch) (Z : State) (a0 : Array Value) (hw : ∀ d ∈ tables_1, d.before a0 Z = true) (ws : List Jvm.Cond) (r0 : Addr) (d1 : UInt64) (d2 : UInt64) (u0 : Value) (u1 : Value) (h0 : Heap) (n0 : Nat) (Z0 : n0 ≤ h0.size) (F_x_r0 : Fld Z h0 r0 "com/example/minisum/minisum/Point" "x" "D" u0) (F_y_r0 : Fld Z h0 r0 "com/example/minisum/minisum/Point" "y" "D" u1) (E_r0 : Exa Z h0 r0 "com/example/minisum/minisum/Point") (g_r0 : n0 ≤ r0) (hf1 : Fin64 d1) (hf2 : Fin64 d2) :
    MetFree l (⟨"com/example/minisum/minisum/Point", "<init>", "(DD)V"⟩ : MethodName) (head1 (Jvm.Cond.code (⟨"com/example/minisum/minisum/Point", "<init>", "(DD)V"⟩ : MethodName) prog_17_method_1_code 5 none :: ws) ({ frames := 2, cells := 0, slots := 0, locals := 26 } : Room)) (fun a U => a = #[(.ref r0), (.double d1), (.double d2)] ∧ Z.Warmed39 U.vm ∧ U.heap = h0) (fun _ _ _ _ _ => True) (fun _ U o U' => ∃ v L, o = .returned v ∧ Qm1 Z r0 d1 d2 u0 u1 h0 n0 v U'.heap L ∧ FrameEnd U o U' L ({ frames := 2, cells := 0, slots := 0, locals := 26 } : Room).cells ({ frames := 2, cells := 0, slots := 0, locals := 26 } : Room).slots) := by
  refine MetFree.of_bodySF (plainFor_of_name pn1) hisR ?_
  intro p e s m args below meth c s₁ Bd hml0 hP hK
  obtain ⟨rfl, hZ, hh⟩ := hP
  have hx := Bd.exec
  have hby := Bd.bytes
  have hml : c.maxLocals = 5 := hml0
  have hown : s.vm.findClass "com/example/minisum/minisum/Point" = some m.cls := findClass_of_methodNamed Bd.named
  have hnm := (name_of_methodNamed Bd.named Bd.method).1
  have X0 : Stand p l e ({ frames := 2, cells := 0, slots := 0, locals := 26 } : Room) s m #[(.ref r0), (.double d1), (.double d2)] below meth c s₁ [] 0 0 := Stand.of_body Bd
  have e0 : s₁.heap = h0 := by rw [← hh, Bd.state]; rfl
  have N0 := Fr.nil n0
  have pre0 : ∀ t, Steps p.tables e below (s₁.setTop (mkF m 0 #[.val (.ref r0), .val (.double d1), .second, .val (.double d2), .second] [])) t → Steps p.tables e below (s₁.setTop (entryFrame m #[(.ref r0), (.double d1), (.double d2)] 5)) t := fun t k => castTop (efm1 m r0 d1 d2) k
  obtain ⟨T101, X101, e101, st101⟩ := initO X0 hx hZ hown (own_w hw 6 rfl) (own_w hw 7 rfl) (own_w hw 8 rfl) e0 (g := (mkF m 1 #[.val (.ref r0), .val (.double d1), .second, .val (.double d2), .second] [(.ref r0)])) rfl (by rw [hml]; rfl) rfl (hb hby d1_1) (by decide) (W := 0) (by show 2 * 0 + _ ≤ _; exact Nat.le_of_eq rfl) (by decide)
  obtain ⟨_, _, ⟨T102, L102, k102, n102⟩, -, X102, ⟨Lc102, hQ102, l102, y102, z102⟩, st102⟩ := Jvm.LawKit.callS X101 hx (y := (⟨"java/lang/Double", "isFinite", "(D)Z"⟩ : MethodName)) hown (mvT hZ (own_w hw 9 rfl)) (mvT hZ (own_w hw 10 rfl)) (mvT hZ (own_w hw 11 rfl)) (mvT hZ (own_w hw 12 rfl)) (by decide) (backOf (W := 0) (rmm3 l Z a0 hw [] d1 h0 n0 Z0 hf1) hZ (own_w hw 12 rfl) (own_w hw 11 rfl) (by decide) (by decide)) (g := (mkF m 5 #[.val (.ref r0), .val (.double d1), .second, .val (.double d2), .second] [(.double d1)])) rfl (by rw [hml]; rfl) (argsL := [(.double d1)]) (rest := []) (lenOf pd1 rfl) rfl (by show 2 * 0 + _ ≤ _; exact Nat.le_of_eq rfl) (hb hby d1_5) (fun _ _ => ⟨rfl, e101, (by decide : 0 + 0 ≤ _), (by decide : 0 + 0 ≤ _)⟩)
  dsimp only [Pt.U, Pt.locs, Pt.cells, Pt.slots] at X102 l102 y102 z102 st102 hQ102
  subst l102 y102 z102
  obtain ⟨rfl, Nq102, P102_0⟩ := hQ102
  have N102 := Fr.app N0 Nq102
  obtain ⟨_, _, ⟨T103, L103, k103, n103⟩, -, X103, ⟨Lc103, hQ103, l103, y103, z103⟩, st103⟩ := Jvm.LawKit.callS X102 hx (y := (⟨"java/lang/Double", "isFinite", "(D)Z"⟩ : MethodName)) hown (mvT hZ (own_w hw 9 rfl)) (mvT hZ (own_w hw 10 rfl)) (mvT hZ (own_w hw 11 rfl)) (mvT hZ (own_w hw 12 rfl)) (by decide) (backOf (W := 0) (rmm3 l Z a0 hw [] d2 h0 n0 Z0 hf2) hZ (own_w hw 12 rfl) (own_w hw 11 rfl) (by decide) (by decide)) (g := (mkF m 12 #[.val (.ref r0), .val (.double d1), .second, .val (.double d2), .second] [(.double d2)])) rfl (by rw [hml]; rfl) (argsL := [(.double d2)]) (rest := []) (lenOf pd1 rfl) rfl (by show 2 * 0 + _ ≤ _; exact Nat.le_of_eq rfl) (hb hby d1_12) (fun _ _ => ⟨rfl, P102_0, (by decide : 0 + 0 ≤ _), (by decide : 0 + 0 ≤ _)⟩)
  dsimp only [Pt.U, Pt.locs, Pt.cells, Pt.slots] at X103 l103 y103 z103 st103 hQ103
  subst l103 y103 z103
  obtain ⟨rfl, Nq103, P103_0⟩ := hQ103
  have N103 := Fr.app N102 Nq103
  obtain ⟨T104, h104, X104, e104, W104, st104⟩ := putF X103 hx hZ hown (host := "") (Or.inl (own_w hw 18 rfl)) Via.refl P103_0 F_x_r0 E_r0 (Or.inr ⟨(own_w hw 19 rfl), rfl, hnm⟩) (own_w hw 1 rfl) (ty := .double) (by decide) rfl rfl (g := (mkF m 35 #[.val (.ref r0), .val (.double d1), .second, .val (.double d2), .second] [(.double d1), (.ref r0)])) rfl rfl (hb hby d1_35)
  have Fw104 := F_x_r0.same W104
  have N104 := Fr.snoc X104 N103 g_r0
  have ZZ105 : n0 ≤ h104.size := Nat.le_trans Z0 (Nat.le_of_eq W104.size.symm)
  have KK106 : Keep h0 h104 [r0] := (Keep.refl h0 [r0]).wr W104 (Or.inl (List.mem_of_getElem? (i := 0) rfl))
  have Fc107 := (F_y_r0.other W104 (Or.inr (sn0 hw)))
  obtain ⟨T108, h108, X108, e108, W108, st108⟩ := putF X104 hx hZ hown (host := "") (Or.inl (own_w hw 20 rfl)) Via.refl e104 Fc107 (E_r0.wr W104) (Or.inr ⟨(own_w hw 21 rfl), rfl, hnm⟩) (own_w hw 1 rfl) (ty := .double) (by decide) rfl rfl (g := (mkF m 40 #[.val (.ref r0), .val (.double d1), .second, .val (.double d2), .second] [(.double d2), (.ref r0)])) rfl rfl (hb hby d1_40)
  have Fw108 := Fc107.same W108
  have N108 := Fr.snoc X108 N104 g_r0
  have ZZ109 : n0 ≤ h108.size := Nat.le_trans ZZ105 (Nat.le_of_eq W108.size.symm)
  have KK110 : Keep h0 h108 [r0] := KK106.wr W108 (Or.inl (List.mem_of_getElem? (i := 0) rfl))
  obtain ⟨fs, hr, hrun, hended, hW, hsame⟩ := X108.leave (v := none) (fun _ => rfl)
  refine ⟨_, _, pre0 _ ?_, hrun, hended, _, _, rfl, ?_, ⟨_, rfl⟩, hW, hsame.mono (by decide) (by decide)⟩
  · show own_S p e below s₁ m 0 #[.val (.ref r0), .val (.double d1), .second, .val (.double d2), .second] [] _
    refine XS.aloadN X0.here hx rfl (hb hby d1_0) rfl rfl ?_
    show own_S p e below s₁ m 1 #[.val (.ref r0), .val (.double d1), .second, .val (.double d2), .second] [(.ref r0)] _
    refine st101 _ ?_
    show own_S p e below T101 m 4 #[.val (.ref r0), .val (.double d1), .second, .val (.double d2), .second] [] _
    refine XS.dloadN X101.here hx rfl (hb hby d1_4) rfl ?_
    show own_S p e below T101 m 5 #[.val (.ref r0), .val (.double d1), .second, .val (.double d2), .second] [(.double d1)] _
    refine st102 _ ?_
    show own_S p e below T102 m 8 #[.val (.ref r0), .val (.double d1), .second, .val (.double d2), .second] [(.int 1)] _
    refine XS.ifNo X102.here hx rfl (hb hby d1_8) rfl ((if0 _ _).trans (feq (by decide : ¬ ((1 : Int32) = (0 : Int32)))).1) ?_
    show own_S p e below T102 m 11 #[.val (.ref r0), .val (.double d1), .second, .val (.double d2), .second] [] _
    refine XS.dloadN X102.here hx rfl (hb hby d1_11) rfl ?_
    show own_S p e below T102 m 12 #[.val (.ref r0), .val (.double d1), .second, .val (.double d2), .second] [(.double d2)] _
    refine st103 _ ?_
    show own_S p e below T103 m 15 #[.val (.ref r0), .val (.double d1), .second, .val (.double d2), .second] [(.int 1)] _
    refine XS.ifYes X103.here hx rfl (pc0 := 15) (pc' := 33) rfl (hb hby d1_15) rfl ((if0 _ _).trans (feq (by decide : ¬ ((1 : Int32) = (0 : Int32)))).2) (by decide) (by decide) ?_
    show own_S p e below T103 m 33 #[.val (.ref r0), .val (.double d1), .second, .val (.double d2), .second] [] _
    refine XS.aloadN X103.here hx rfl (hb hby d1_33) rfl rfl ?_
    show own_S p e below T103 m 34 #[.val (.ref r0), .val (.double d1), .second, .val (.double d2), .second] [(.ref r0)] _
    refine XS.dloadN X103.here hx rfl (hb hby d1_34) rfl ?_
    show own_S p e below T103 m 35 #[.val (.ref r0), .val (.double d1), .second, .val (.double d2), .second] [(.double d1), (.ref r0)] _
    refine st104 _ ?_
    show own_S p e below T104 m 38 #[.val (.ref r0), .val (.double d1), .second, .val (.double d2), .second] [] _
    refine XS.aloadN X104.here hx rfl (hb hby d1_38) rfl rfl ?_
    show own_S p e below T104 m 39 #[.val (.ref r0), .val (.double d1), .second, .val (.double d2), .second] [(.ref r0)] _
    refine XS.dloadN X104.here hx rfl (hb hby d1_39) rfl ?_
    show own_S p e below T104 m 40 #[.val (.ref r0), .val (.double d1), .second, .val (.double d2), .second] [(.double d2), (.ref r0)] _
    refine st108 _ ?_
    show own_S p e below T108 m 43 #[.val (.ref r0), .val (.double d1), .second, .val (.double d2), .second] [] _
    exact X108.returnOut hx Bd.returns (hb hby d1_43) hr
  · show Qm1 Z r0 d1 d2 u0 u1 h0 n0 _ T108.heap _
    rw [e108]
    exact ⟨rfl, N108, KK110, ((E_r0.wr W104).wr W108), (Fw104.other W108 (Or.inr (sn1 hw))), Fw108⟩
theorem d8_0 : decode jdk_117_method_6_code 0 = .ok (.dload_n 0, 1) := by decide +kernel
theorem d8_1 : decode jdk_117_method_6_code 1 = .ok (.dload_n 0, 1) := by decide +kernel
theorem d8_2 : decode jdk_117_method_6_code 2 = .ok (.dcmp .l, 1) := by decide +kernel
theorem d8_3 : decode jdk_117_method_6_code 3 = .ok (.ifCond .eq 7, 3) := by decide +kernel
theorem d8_10 : decode jdk_117_method_6_code 10 = .ok (.iconst 0, 1) := by decide +kernel
theorem d8_11 : decode jdk_117_method_6_code 11 = .ok (.ireturn, 1) := by decide +kernel
theorem efm8 (m : MethodId) (d0 : UInt64) : entryFrame m #[(.double d0)] 2 = mkF m 0 #[.val (.double d0), .second] [] := by first | (simp [entryFrame, mkF, argsToLocals, Value.category]; done) | rfl
def Qm8 (Z : State) (d0 : UInt64) (h0 : Heap) (n0 : Nat) (v : Option Value) (h : Heap) (L : List Loc) : Prop := v = some (.int 0) ∧ Fr n0 L ∧ (h = h0)
set_option maxRecDepth 65536 in
set_option maxHeartbeats 40000000 in
theorem rmm8 (l : Launch) (Z : State) (a0 : Array Value) (hw : ∀ d ∈ tables_1, d.before a0 Z = true) (ws : List Jvm.Cond) (d0 : UInt64) (h0 : Heap) (n0 : Nat) (Z0 : n0 ≤ h0.size) (hn : NoNaN64 d0) :
    MetFree l (⟨"java/lang/Double", "isNaN", "(D)Z"⟩ : MethodName) (head1 (Jvm.Cond.code (⟨"java/lang/Double", "isNaN", "(D)Z"⟩ : MethodName) jdk_117_method_6_code 2 (some .boolean) :: ws) ({ frames := 0, cells := 0, slots := 0, locals := 0 } : Room)) (fun a U => a = #[(.double d0)] ∧ Z.Warmed39 U.vm ∧ U.heap = h0) (fun _ _ _ _ _ => True) (fun _ U o U' => ∃ v L, o = .returned v ∧ Qm8 Z d0 h0 n0 v U'.heap L ∧ FrameEnd U o U' L ({ frames := 0, cells := 0, slots := 0, locals := 0 } : Room).cells ({ frames := 0, cells := 0, slots := 0, locals := 0 } : Room).slots) := by
  refine MetFree.of_bodySF (plainFor_of_name pn0) hisR ?_
  intro p e s m args below meth c s₁ Bd hml0 hP hK
  obtain ⟨rfl, hZ, hh⟩ := hP
  have hx := Bd.exec
  have hby := Bd.bytes
  have hml : c.maxLocals = 2 := hml0
  have hown : s.vm.findClass "java/lang/Double" = some m.cls := findClass_of_methodNamed Bd.named
  have hnm := (name_of_methodNamed Bd.named Bd.method).1
  have X0 : Stand p l e ({ frames := 0, cells := 0, slots := 0, locals := 0 } : Room) s m #[(.double d0)] below meth c s₁ [] 0 0 := Stand.of_body Bd
  have e0 : s₁.heap = h0 := by rw [← hh, Bd.state]; rfl
  have N0 := Fr.nil n0
  have pre0 : ∀ t, Steps p.tables e below (s₁.setTop (mkF m 0 #[.val (.double d0), .second] [])) t → Steps p.tables e below (s₁.setTop (entryFrame m #[(.double d0)] 2)) t := fun t k => castTop (efm8 m d0) k
  obtain ⟨fs, hr, hrun, hended, hW, hsame⟩ := X0.leave (v := some (.int 0)) (fun h => by rw [Bd.returns] at h; cases h)
  refine ⟨_, _, pre0 _ ?_, hrun, hended, _, _, rfl, ?_, ⟨_, rfl⟩, hW, hsame.mono (by decide) (by decide)⟩
  · show own_S p e below s₁ m 0 #[.val (.double d0), .second] [] _
    refine XS.dloadN X0.here hx rfl (hb hby d8_0) rfl ?_
    show own_S p e below s₁ m 1 #[.val (.double d0), .second] [(.double d0)] _
    refine XS.dloadN X0.here hx rfl (hb hby d8_1) rfl ?_
    show own_S p e below s₁ m 2 #[.val (.double d0), .second] [(.double d0), (.double d0)] _
    refine XS.dcmpS X0.here hx rfl (v := (0 : Int32)) (hb hby d8_2) rfl (dcmpV_self hn .l) ?_
    show own_S p e below s₁ m 3 #[.val (.double d0), .second] [(.int 0)] _
    refine XS.ifYes X0.here hx rfl (pc0 := 3) (pc' := 10) rfl (hb hby d8_3) rfl ((if0 _ _).trans (teq (by decide : (0 : Int32) = (0 : Int32))).1) (by decide) (by decide) ?_
    show own_S p e below s₁ m 10 #[.val (.double d0), .second] [] _
    refine XS.iconst X0.here hx rfl (hb hby d8_10) ?_
    show own_S p e below s₁ m 11 #[.val (.double d0), .second] [(.int 0)] _
    exact retN X0 hx (t := .boolean) Bd.returns (by simp) (hb hby d8_11) hr
  · show Qm8 Z d0 h0 n0 _ s₁.heap _
    rw [e0]
    exact ⟨rfl, N0, rfl⟩
theorem d7_0 : decode jdk_117_method_23_code 0 = .ok (.dload_n 0, 1) := by decide +kernel
theorem d7_1 : decode jdk_117_method_23_code 1 = .ok (.invokestatic 122, 3) := by decide +kernel
theorem d7_4 : decode jdk_117_method_23_code 4 = .ok (.ifCond .ne 8, 3) := by decide +kernel
theorem d7_7 : decode jdk_117_method_23_code 7 = .ok (.dload_n 0, 1) := by decide +kernel
theorem d7_8 : decode jdk_117_method_23_code 8 = .ok (.invokestatic 134, 3) := by decide +kernel
theorem d7_11 : decode jdk_117_method_23_code 11 = .ok (.lreturn, 1) := by decide +kernel
theorem efm7 (m : MethodId) (d0 : UInt64) : entryFrame m #[(.double d0)] 2 = mkF m 0 #[.val (.double d0), .second] [] := by first | (simp [entryFrame, mkF, argsToLocals, Value.category]; done) | rfl
def Qm7 (Z : State) (d0 : UInt64) (h0 : Heap) (n0 : Nat) (v : Option Value) (h : Heap) (L : List Loc) : Prop := v = some (.long (d0.toInt64)) ∧ Fr n0 L ∧ (h = h0)
set_option maxRecDepth 65536 in
set_option maxHeartbeats 40000000 in
theorem rmm7 (l : Launch) (Z : State) (a0 : Array Value) (hw : ∀ d ∈ tables_1, d.before a0 Z = true) (ws : List Jvm.Cond) (d0 : UInt64) (h0 : Heap) (n0 : Nat) (Z0 : n0 ≤ h0.size) (hn : NoNaN64 d0) :
    MetFree l (⟨"java/lang/Double", "doubleToLongBits", "(D)J"⟩ : MethodName) (head1 (Jvm.Cond.code (⟨"java/lang/Double", "doubleToLongBits", "(D)J"⟩ : MethodName) jdk_117_method_23_code 2 (some .long) :: ws) ({ frames := 1, cells := 0, slots := 0, locals := 15 } : Room)) (fun a U => a = #[(.double d0)] ∧ Z.Warmed39 U.vm ∧ U.heap = h0) (fun _ _ _ _ _ => True) (fun _ U o U' => ∃ v L, o = .returned v ∧ Qm7 Z d0 h0 n0 v U'.heap L ∧ FrameEnd U o U' L ({ frames := 1, cells := 0, slots := 0, locals := 15 } : Room).cells ({ frames := 1, cells := 0, slots := 0, locals := 15 } : Room).slots) := by
  refine MetFree.of_bodySF (plainFor_of_name pn0) hisR ?_
  intro p e s m args below meth c s₁ Bd hml0 hP hK
  obtain ⟨rfl, hZ, hh⟩ := hP
  have hx := Bd.exec
  have hby := Bd.bytes
  have hml : c.maxLocals = 2 := hml0
  have hown : s.vm.findClass "java/lang/Double" = some m.cls := findClass_of_methodNamed Bd.named
  have hnm := (name_of_methodNamed Bd.named Bd.method).1
  have X0 : Stand p l e ({ frames := 1, cells := 0, slots := 0, locals := 15 } : Room) s m #[(.double d0)] below meth c s₁ [] 0 0 := Stand.of_body Bd
  have e0 : s₁.heap = h0 := by rw [← hh, Bd.state]; rfl
  have N0 := Fr.nil n0
  have pre0 : ∀ t, Steps p.tables e below (s₁.setTop (mkF m 0 #[.val (.double d0), .second] [])) t → Steps p.tables e below (s₁.setTop (entryFrame m #[(.double d0)] 2)) t := fun t k => castTop (efm7 m d0) k
  obtain ⟨_, _, ⟨T101, L101, k101, n101⟩, -, X101, ⟨Lc101, hQ101, l101, y101, z101⟩, st101⟩ := Jvm.LawKit.callS X0 hx (y := (⟨"java/lang/Double", "isNaN", "(D)Z"⟩ : MethodName)) hown (mvT hZ (own_w hw 33 rfl)) (mvT hZ (own_w hw 34 rfl)) (mvT hZ (own_w hw 11 rfl)) (mvT hZ (own_w hw 35 rfl)) (by decide) (backOf (W := 0) (rmm8 l Z a0 hw [] d0 h0 n0 Z0 hn) hZ (own_w hw 35 rfl) (own_w hw 11 rfl) (by decide) (by decide)) (g := (mkF m 1 #[.val (.double d0), .second] [(.double d0)])) rfl (by rw [hml]; rfl) (argsL := [(.double d0)]) (rest := []) (lenOf pd1 rfl) rfl (by show 2 * 0 + _ ≤ _; exact Nat.le_of_eq rfl) (hb hby d7_1) (fun _ _ => ⟨rfl, e0, (by decide : 0 + 0 ≤ _), (by decide : 0 + 0 ≤ _)⟩)
  dsimp only [Pt.U, Pt.locs, Pt.cells, Pt.slots] at X101 l101 y101 z101 st101 hQ101
  subst l101 y101 z101
  obtain ⟨rfl, Nq101, P101_0⟩ := hQ101
  have N101 := Fr.app N0 Nq101
  obtain ⟨vm102, X102, st102⟩ := X101.doubleToRawLongBits hx hown (mvT hZ (own_w hw 36 rfl)) (mvT hZ (own_w hw 38 rfl)) (mvT hZ (own_w hw 37 rfl)) (mvT hZ (own_w hw 11 rfl)) (g := (mkF m 8 #[.val (.double d0), .second] [(.double d0)])) rfl (by rw [hml]; rfl) (rest := []) rfl (hb hby d7_8) (by decide) (by show 2 * 0 + 0 + (nativeFrameWords "java/lang/Double" "doubleToRawLongBits" 2 + 11) ≤ _; decide +kernel)
  have e102 : (T101.setVm vm102).heap = h0 := P101_0
  obtain ⟨fs, hr, hrun, hended, hW, hsame⟩ := X102.leave (v := some (.long (d0.toInt64))) (fun h => by rw [Bd.returns] at h; cases h)
  refine ⟨_, _, pre0 _ ?_, hrun, hended, _, _, rfl, ?_, ⟨_, rfl⟩, hW, hsame.mono (by decide) (by decide)⟩
  · show own_S p e below s₁ m 0 #[.val (.double d0), .second] [] _
    refine XS.dloadN X0.here hx rfl (hb hby d7_0) rfl ?_
    show own_S p e below s₁ m 1 #[.val (.double d0), .second] [(.double d0)] _
    refine st101 _ ?_
    show own_S p e below T101 m 4 #[.val (.double d0), .second] [(.int 0)] _
    refine XS.ifNo X101.here hx rfl (hb hby d7_4) rfl ((if0 _ _).trans (teq (by decide : (0 : Int32) = (0 : Int32))).2) ?_
    show own_S p e below T101 m 7 #[.val (.double d0), .second] [] _
    refine XS.dloadN X101.here hx rfl (hb hby d7_7) rfl ?_
    show own_S p e below T101 m 8 #[.val (.double d0), .second] [(.double d0)] _
    refine st102 _ ?_
    show own_S p e below (T101.setVm vm102) m 11 #[.val (.double d0), .second] [(.long (d0.toInt64))] _
    exact retOut X102 hx Bd.returns rfl (Or.inr (Or.inl ⟨rfl, rfl, _, rfl⟩)) (hb hby d7_11) hr
  · show Qm7 Z d0 h0 n0 _ (T101.setVm vm102).heap _
    rw [e102]
    exact ⟨rfl, N101, rfl⟩
theorem pd2 : parseMethodDescriptor "(D)J" = some ⟨[.double], some .long⟩ := by decide +kernel
theorem d11_0 : decode jdk_117_method_27_code 0 = .ok (.dload_n 0, 1) := by decide +kernel
theorem d11_1 : decode jdk_117_method_27_code 1 = .ok (.dload_n 2, 1) := by decide +kernel
theorem d11_2 : decode jdk_117_method_27_code 2 = .ok (.dcmp .g, 1) := by decide +kernel
theorem d11_3 : decode jdk_117_method_27_code 3 = .ok (.ifCond .ge 5, 3) := by decide +kernel
theorem d11_6 : decode jdk_117_method_27_code 6 = .ok (.iconst (-1), 1) := by decide +kernel
theorem d11_7 : decode jdk_117_method_27_code 7 = .ok (.ireturn, 1) := by decide +kernel
theorem d11_8 : decode jdk_117_method_27_code 8 = .ok (.dload_n 0, 1) := by decide +kernel
theorem d11_9 : decode jdk_117_method_27_code 9 = .ok (.dload_n 2, 1) := by decide +kernel
theorem d11_10 : decode jdk_117_method_27_code 10 = .ok (.dcmp .l, 1) := by decide +kernel
theorem d11_11 : decode jdk_117_method_27_code 11 = .ok (.ifCond .le 5, 3) := by decide +kernel
theorem d11_14 : decode jdk_117_method_27_code 14 = .ok (.iconst 1, 1) := by decide +kernel
theorem d11_15 : decode jdk_117_method_27_code 15 = .ok (.ireturn, 1) := by decide +kernel
theorem d11_16 : decode jdk_117_method_27_code 16 = .ok (.dload_n 0, 1) := by decide +kernel
theorem d11_17 : decode jdk_117_method_27_code 17 = .ok (.invokestatic 46, 3) := by decide +kernel
theorem d11_20 : decode jdk_117_method_27_code 20 = .ok (.lstore 4, 2) := by decide +kernel
theorem d11_22 : decode jdk_117_method_27_code 22 = .ok (.dload_n 2, 1) := by decide +kernel
theorem d11_23 : decode jdk_117_method_27_code 23 = .ok (.invokestatic 46, 3) := by decide +kernel
theorem d11_26 : decode jdk_117_method_27_code 26 = .ok (.lstore 6, 2) := by decide +kernel
theorem d11_28 : decode jdk_117_method_27_code 28 = .ok (.lload 4, 2) := by decide +kernel
theorem d11_30 : decode jdk_117_method_27_code 30 = .ok (.lload 6, 2) := by decide +kernel
theorem d11_32 : decode jdk_117_method_27_code 32 = .ok (.lcmp, 1) := by decide +kernel
theorem d11_33 : decode jdk_117_method_27_code 33 = .ok (.ifCond .ne 7, 3) := by decide +kernel
theorem d11_36 : decode jdk_117_method_27_code 36 = .ok (.iconst 0, 1) := by decide +kernel
theorem d11_37 : decode jdk_117_method_27_code 37 = .ok (.goto 16, 3) := by decide +kernel
theorem d11_40 : decode jdk_117_method_27_code 40 = .ok (.lload 4, 2) := by decide +kernel
theorem d11_42 : decode jdk_117_method_27_code 42 = .ok (.lload 6, 2) := by decide +kernel
theorem d11_44 : decode jdk_117_method_27_code 44 = .ok (.lcmp, 1) := by decide +kernel
theorem d11_45 : decode jdk_117_method_27_code 45 = .ok (.ifCond .ge 7, 3) := by decide +kernel
theorem d11_48 : decode jdk_117_method_27_code 48 = .ok (.iconst (-1), 1) := by decide +kernel
theorem d11_49 : decode jdk_117_method_27_code 49 = .ok (.goto 4, 3) := by decide +kernel
theorem d11_52 : decode jdk_117_method_27_code 52 = .ok (.iconst 1, 1) := by decide +kernel
theorem d11_53 : decode jdk_117_method_27_code 53 = .ok (.ireturn, 1) := by decide +kernel
theorem efm11 (m : MethodId) (d0 : UInt64) (d1 : UInt64) : entryFrame m #[(.double d0), (.double d1)] 8 = mkF m 0 #[.val (.double d0), .second, .val (.double d1), .second, .unset, .unset, .unset, .unset] [] := by first | (simp [entryFrame, mkF, argsToLocals, Value.category]; done) | rfl
def Qm11 (Z : State) (d0 : UInt64) (d1 : UInt64) (h0 : Heap) (n0 : Nat) (v : Option Value) (h : Heap) (L : List Loc) : Prop := v = some (.int (own_cmpD d0 d1)) ∧ Fr n0 L ∧ (h = h0)
set_option maxRecDepth 65536 in
set_option maxHeartbeats 40000000 in
theorem rmm11 (l : Launch) (Z : State) (a0 : Array Value) (hw : ∀ d ∈ tables_1, d.before a0 Z = true) (ws : List Jvm.Cond) (d0 : UInt64) (d1 : UInt64) (h0 : Heap) (n0 : Nat) (Z0 : n0 ≤ h0.size) (hna : NoNaN64 d0) (hnb : NoNaN64 d1) :
    MetFree l (⟨"java/lang/Double", "compare", "(DD)I"⟩ : MethodName) (head1 (Jvm.Cond.code (⟨"java/lang/Double", "compare", "(DD)I"⟩ : MethodName) jdk_117_method_27_code 8 (some .int) :: ws) ({ frames := 2, cells := 0, slots := 0, locals := 28 } : Room)) (fun a U => a = #[(.double d0), (.double d1)] ∧ Z.Warmed39 U.vm ∧ U.heap = h0) (fun _ _ _ _ _ => True) (fun _ U o U' => ∃ v L, o = .returned v ∧ Qm11 Z d0 d1 h0 n0 v U'.heap L ∧ FrameEnd U o U' L ({ frames := 2, cells := 0, slots := 0, locals := 28 } : Room).cells ({ frames := 2, cells := 0, slots := 0, locals := 28 } : Room).slots) := by
  refine MetFree.of_bodySF (plainFor_of_name pn0) hisR ?_
  intro p e s m args below meth c s₁ Bd hml0 hP hK
  obtain ⟨rfl, hZ, hh⟩ := hP
  have hx := Bd.exec
  have hby := Bd.bytes
  have hml : c.maxLocals = 8 := hml0
  have hown : s.vm.findClass "java/lang/Double" = some m.cls := findClass_of_methodNamed Bd.named
  have hnm := (name_of_methodNamed Bd.named Bd.method).1
  have X0 : Stand p l e ({ frames := 2, cells := 0, slots := 0, locals := 28 } : Room) s m #[(.double d0), (.double d1)] below meth c s₁ [] 0 0 := Stand.of_body Bd
  have e0 : s₁.heap = h0 := by rw [← hh, Bd.state]; rfl
  have N0 := Fr.nil n0
  have pre0 : ∀ t, Steps p.tables e below (s₁.setTop (mkF m 0 #[.val (.double d0), .second, .val (.double d1), .second, .unset, .unset, .unset, .unset] [])) t → Steps p.tables e below (s₁.setTop (entryFrame m #[(.double d0), (.double d1)] 8)) t := fun t k => castTop (efm11 m d0 d1) k
  have pre101 : ∀ t, Steps p.tables e below (s₁.setTop (mkF m 3 #[.val (.double d0), .second, .val (.double d1), .second, .unset, .unset, .unset, .unset] [(.int (cmpValue (FP.dcmp d0 d1) .g))])) t → Steps p.tables e below (s₁.setTop (mkF m 0 #[.val (.double d0), .second, .val (.double d1), .second, .unset, .unset, .unset, .unset] [])) t := by
    intro t kt
    show own_S p e below s₁ m 0 #[.val (.double d0), .second, .val (.double d1), .second, .unset, .unset, .unset, .unset] [] _
    refine XS.dloadN X0.here hx rfl (hb hby d11_0) rfl ?_
    show own_S p e below s₁ m 1 #[.val (.double d0), .second, .val (.double d1), .second, .unset, .unset, .unset, .unset] [(.double d0)] _
    refine XS.dloadN X0.here hx rfl (hb hby d11_1) rfl ?_
    show own_S p e below s₁ m 2 #[.val (.double d0), .second, .val (.double d1), .second, .unset, .unset, .unset, .unset] [(.double d1), (.double d0)] _
    refine XS.dcmpS X0.here hx rfl (v := (cmpValue (FP.dcmp d0 d1) .g)) (hb hby d11_2) rfl rfl ?_
    exact kt
  by_cases ha : (cmpValue (FP.dcmp d0 d1) .g) < (0 : Int32)
  · skip
    obtain ⟨fs, hr, hrun, hended, hW, hsame⟩ := X0.leave (v := some (.int (-1))) (fun h => by rw [Bd.returns] at h; cases h)
    refine ⟨_, _, pre0 _ (pre101 _ ?_), hrun, hended, _, _, rfl, ?_, ⟨_, rfl⟩, hW, hsame.mono (by decide) (by decide)⟩
    · show own_S p e below s₁ m 3 #[.val (.double d0), .second, .val (.double d1), .second, .unset, .unset, .unset, .unset] [(.int (cmpValue (FP.dcmp d0 d1) .g))] _
      refine XS.ifNo X0.here hx rfl (hb hby d11_3) rfl ((if0 _ _).trans (tlt (ha : (cmpValue (FP.dcmp d0 d1) .g) < (0 : Int32))).2.1) ?_
      show own_S p e below s₁ m 6 #[.val (.double d0), .second, .val (.double d1), .second, .unset, .unset, .unset, .unset] [] _
      refine XS.iconst X0.here hx rfl (hb hby d11_6) ?_
      show own_S p e below s₁ m 7 #[.val (.double d0), .second, .val (.double d1), .second, .unset, .unset, .unset, .unset] [(.int (-1))] _
      exact retOut X0 hx Bd.returns rfl (Or.inl ⟨rfl, Or.inl rfl, _, rfl⟩) (hb hby d11_7) hr
    · show Qm11 Z d0 d1 h0 n0 _ s₁.heap _
      rw [e0]
      exact ⟨(by simp [own_cmpD, *]), N0, rfl⟩
  · skip
    have pre102 : ∀ t, Steps p.tables e below (s₁.setTop (mkF m 11 #[.val (.double d0), .second, .val (.double d1), .second, .unset, .unset, .unset, .unset] [(.int (cmpValue (FP.dcmp d0 d1) .l))])) t → Steps p.tables e below (s₁.setTop (mkF m 0 #[.val (.double d0), .second, .val (.double d1), .second, .unset, .unset, .unset, .unset] [])) t := by
      intro t kt
      refine pre101 _ ?_
      show own_S p e below s₁ m 3 #[.val (.double d0), .second, .val (.double d1), .second, .unset, .unset, .unset, .unset] [(.int (cmpValue (FP.dcmp d0 d1) .g))] _
      refine XS.ifYes X0.here hx rfl (pc0 := 3) (pc' := 8) rfl (hb hby d11_3) rfl ((if0 _ _).trans (flt (ha : ¬ ((cmpValue (FP.dcmp d0 d1) .g) < (0 : Int32)))).2.1) (by decide) (by decide) ?_
      show own_S p e below s₁ m 8 #[.val (.double d0), .second, .val (.double d1), .second, .unset, .unset, .unset, .unset] [] _
      refine XS.dloadN X0.here hx rfl (hb hby d11_8) rfl ?_
      show own_S p e below s₁ m 9 #[.val (.double d0), .second, .val (.double d1), .second, .unset, .unset, .unset, .unset] [(.double d0)] _
      refine XS.dloadN X0.here hx rfl (hb hby d11_9) rfl ?_
      show own_S p e below s₁ m 10 #[.val (.double d0), .second, .val (.double d1), .second, .unset, .unset, .unset, .unset] [(.double d1), (.double d0)] _
      refine XS.dcmpS X0.here hx rfl (v := (cmpValue (FP.dcmp d0 d1) .l)) (hb hby d11_10) rfl rfl ?_
      exact kt
    by_cases hb_ : (0 : Int32) < (cmpValue (FP.dcmp d0 d1) .l)
    · skip
      obtain ⟨fs, hr, hrun, hended, hW, hsame⟩ := X0.leave (v := some (.int 1)) (fun h => by rw [Bd.returns] at h; cases h)
      refine ⟨_, _, pre0 _ (pre102 _ ?_), hrun, hended, _, _, rfl, ?_, ⟨_, rfl⟩, hW, hsame.mono (by decide) (by decide)⟩
      · show own_S p e below s₁ m 11 #[.val (.double d0), .second, .val (.double d1), .second, .unset, .unset, .unset, .unset] [(.int (cmpValue (FP.dcmp d0 d1) .l))] _
        refine XS.ifNo X0.here hx rfl (hb hby d11_11) rfl ((if0 _ _).trans (tlt (hb_ : (0 : Int32) < (cmpValue (FP.dcmp d0 d1) .l))).2.2.2) ?_
        show own_S p e below s₁ m 14 #[.val (.double d0), .second, .val (.double d1), .second, .unset, .unset, .unset, .unset] [] _
        refine XS.iconst X0.here hx rfl (hb hby d11_14) ?_
        show own_S p e below s₁ m 15 #[.val (.double d0), .second, .val (.double d1), .second, .unset, .unset, .unset, .unset] [(.int 1)] _
        exact retOut X0 hx Bd.returns rfl (Or.inl ⟨rfl, Or.inl rfl, _, rfl⟩) (hb hby d11_15) hr
      · show Qm11 Z d0 d1 h0 n0 _ s₁.heap _
        rw [e0]
        exact ⟨(by simp [own_cmpD, *]), N0, rfl⟩
    · skip
      obtain ⟨_, _, ⟨T103, L103, k103, n103⟩, -, X103, ⟨Lc103, hQ103, l103, y103, z103⟩, st103⟩ := Jvm.LawKit.callS X0 hx (y := (⟨"java/lang/Double", "doubleToLongBits", "(D)J"⟩ : MethodName)) hown (mvT hZ (own_w hw 30 rfl)) (mvT hZ (own_w hw 31 rfl)) (mvT hZ (own_w hw 11 rfl)) (mvT hZ (own_w hw 32 rfl)) (by decide) (backOf (W := 0) (rmm7 l Z a0 hw [] d0 h0 n0 Z0 hna) hZ (own_w hw 32 rfl) (own_w hw 11 rfl) (by decide) (by decide)) (g := (mkF m 17 #[.val (.double d0), .second, .val (.double d1), .second, .unset, .unset, .unset, .unset] [(.double d0)])) rfl (by rw [hml]; rfl) (argsL := [(.double d0)]) (rest := []) (lenOf pd2 rfl) rfl (by show 2 * 0 + _ ≤ _; exact Nat.le_of_eq rfl) (hb hby d11_17) (fun _ _ => ⟨rfl, e0, (by decide : 0 + 0 ≤ _), (by decide : 0 + 0 ≤ _)⟩)
      dsimp only [Pt.U, Pt.locs, Pt.cells, Pt.slots] at X103 l103 y103 z103 st103 hQ103
      subst l103 y103 z103
      obtain ⟨rfl, Nq103, P103_0⟩ := hQ103
      have N103 := Fr.app N0 Nq103
      obtain ⟨_, _, ⟨T104, L104, k104, n104⟩, -, X104, ⟨Lc104, hQ104, l104, y104, z104⟩, st104⟩ := Jvm.LawKit.callS X103 hx (y := (⟨"java/lang/Double", "doubleToLongBits", "(D)J"⟩ : MethodName)) hown (mvT hZ (own_w hw 30 rfl)) (mvT hZ (own_w hw 31 rfl)) (mvT hZ (own_w hw 11 rfl)) (mvT hZ (own_w hw 32 rfl)) (by decide) (backOf (W := 0) (rmm7 l Z a0 hw [] d1 h0 n0 Z0 hnb) hZ (own_w hw 32 rfl) (own_w hw 11 rfl) (by decide) (by decide)) (g := (mkF m 23 #[.val (.double d0), .second, .val (.double d1), .second, .val (.long (d0.toInt64)), .second, .unset, .unset] [(.double d1)])) rfl (by rw [hml]; rfl) (argsL := [(.double d1)]) (rest := []) (lenOf pd2 rfl) rfl (by show 2 * 0 + _ ≤ _; exact Nat.le_of_eq rfl) (hb hby d11_23) (fun _ _ => ⟨rfl, P103_0, (by decide : 0 + 0 ≤ _), (by decide : 0 + 0 ≤ _)⟩)
      dsimp only [Pt.U, Pt.locs, Pt.cells, Pt.slots] at X104 l104 y104 z104 st104 hQ104
      subst l104 y104 z104
      obtain ⟨rfl, Nq104, P104_0⟩ := hQ104
      have N104 := Fr.app N103 Nq104
      have pre105 : ∀ t, Steps p.tables e below (T104.setTop (mkF m 33 #[.val (.double d0), .second, .val (.double d1), .second, .val (.long (d0.toInt64)), .second, .val (.long (d1.toInt64)), .second] [(.int (lcmpW (d0.toInt64) (d1.toInt64)))])) t → Steps p.tables e below (s₁.setTop (mkF m 0 #[.val (.double d0), .second, .val (.double d1), .second, .unset, .unset, .unset, .unset] [])) t := by
        intro t kt
        refine pre102 _ ?_
        show own_S p e below s₁ m 11 #[.val (.double d0), .second, .val (.double d1), .second, .unset, .unset, .unset, .unset] [(.int (cmpValue (FP.dcmp d0 d1) .l))] _
        refine XS.ifYes X0.here hx rfl (pc0 := 11) (pc' := 16) rfl (hb hby d11_11) rfl ((if0 _ _).trans (flt (hb_ : ¬ ((0 : Int32) < (cmpValue (FP.dcmp d0 d1) .l)))).2.2.2) (by decide) (by decide) ?_
        show own_S p e below s₁ m 16 #[.val (.double d0), .second, .val (.double d1), .second, .unset, .unset, .unset, .unset] [] _
        refine XS.dloadN X0.here hx rfl (hb hby d11_16) rfl ?_
        show own_S p e below s₁ m 17 #[.val (.double d0), .second, .val (.double d1), .second, .unset, .unset, .unset, .unset] [(.double d0)] _
        refine st103 _ ?_
        show own_S p e below T103 m 20 #[.val (.double d0), .second, .val (.double d1), .second, .unset, .unset, .unset, .unset] [(.long (d0.toInt64))] _
        refine XS.lstore X103.here hx rfl (hb hby d11_20) rfl (l' := #[.val (.double d0), .second, .val (.double d1), .second, .val (.long (d0.toInt64)), .second, .unset, .unset]) rfl ?_
        show own_S p e below T103 m 22 #[.val (.double d0), .second, .val (.double d1), .second, .val (.long (d0.toInt64)), .second, .unset, .unset] [] _
        refine XS.dloadN X103.here hx rfl (hb hby d11_22) rfl ?_
        show own_S p e below T103 m 23 #[.val (.double d0), .second, .val (.double d1), .second, .val (.long (d0.toInt64)), .second, .unset, .unset] [(.double d1)] _
        refine st104 _ ?_
        show own_S p e below T104 m 26 #[.val (.double d0), .second, .val (.double d1), .second, .val (.long (d0.toInt64)), .second, .unset, .unset] [(.long (d1.toInt64))] _
        refine XS.lstore X104.here hx rfl (hb hby d11_26) rfl (l' := #[.val (.double d0), .second, .val (.double d1), .second, .val (.long (d0.toInt64)), .second, .val (.long (d1.toInt64)), .second]) rfl ?_
        show own_S p e below T104 m 28 #[.val (.double d0), .second, .val (.double d1), .second, .val (.long (d0.toInt64)), .second, .val (.long (d1.toInt64)), .second] [] _
        refine XS.lload X104.here hx rfl (hb hby d11_28) rfl ?_
        show own_S p e below T104 m 30 #[.val (.double d0), .second, .val (.double d1), .second, .val (.long (d0.toInt64)), .second, .val (.long (d1.toInt64)), .second] [(.long (d0.toInt64))] _
        refine XS.lload X104.here hx rfl (hb hby d11_30) rfl ?_
        show own_S p e below T104 m 32 #[.val (.double d0), .second, .val (.double d1), .second, .val (.long (d0.toInt64)), .second, .val (.long (d1.toInt64)), .second] [(.long (d1.toInt64)), (.long (d0.toInt64))] _
        refine XS.lcmp X104.here hx rfl (hb hby d11_32) rfl ?_
        exact kt
      by_cases hc : (lcmpW (d0.toInt64) (d1.toInt64)) = (0 : Int32)
      · skip
        obtain ⟨fs, hr, hrun, hended, hW, hsame⟩ := X104.leave (v := some (.int 0)) (fun h => by rw [Bd.returns] at h; cases h)
        refine ⟨_, _, pre0 _ (pre105 _ ?_), hrun, hended, _, _, rfl, ?_, ⟨_, rfl⟩, hW, hsame.mono (by decide) (by decide)⟩
        · show own_S p e below T104 m 33 #[.val (.double d0), .second, .val (.double d1), .second, .val (.long (d0.toInt64)), .second, .val (.long (d1.toInt64)), .second] [(.int (lcmpW (d0.toInt64) (d1.toInt64)))] _
          refine XS.ifNo X104.here hx rfl (hb hby d11_33) rfl ((if0 _ _).trans (teq (hc : (lcmpW (d0.toInt64) (d1.toInt64)) = (0 : Int32))).2) ?_
          show own_S p e below T104 m 36 #[.val (.double d0), .second, .val (.double d1), .second, .val (.long (d0.toInt64)), .second, .val (.long (d1.toInt64)), .second] [] _
          refine XS.iconst X104.here hx rfl (hb hby d11_36) ?_
          show own_S p e below T104 m 37 #[.val (.double d0), .second, .val (.double d1), .second, .val (.long (d0.toInt64)), .second, .val (.long (d1.toInt64)), .second] [(.int 0)] _
          refine XS.goto X104.here hx rfl (pc0 := 37) (pc' := 53) rfl (hb hby d11_37) (by decide) (by decide) ?_
          show own_S p e below T104 m 53 #[.val (.double d0), .second, .val (.double d1), .second, .val (.long (d0.toInt64)), .second, .val (.long (d1.toInt64)), .second] [(.int 0)] _
          exact retOut X104 hx Bd.returns rfl (Or.inl ⟨rfl, Or.inl rfl, _, rfl⟩) (hb hby d11_53) hr
        · show Qm11 Z d0 d1 h0 n0 _ T104.heap _
          rw [P104_0]
          exact ⟨(by simp [own_cmpD, *]), N104, rfl⟩
      · skip
        have pre106 : ∀ t, Steps p.tables e below (T104.setTop (mkF m 45 #[.val (.double d0), .second, .val (.double d1), .second, .val (.long (d0.toInt64)), .second, .val (.long (d1.toInt64)), .second] [(.int (lcmpW (d0.toInt64) (d1.toInt64)))])) t → Steps p.tables e below (s₁.setTop (mkF m 0 #[.val (.double d0), .second, .val (.double d1), .second, .unset, .unset, .unset, .unset] [])) t := by
          intro t kt
          refine pre105 _ ?_
          show own_S p e below T104 m 33 #[.val (.double d0), .second, .val (.double d1), .second, .val (.long (d0.toInt64)), .second, .val (.long (d1.toInt64)), .second] [(.int (lcmpW (d0.toInt64) (d1.toInt64)))] _
          refine XS.ifYes X104.here hx rfl (pc0 := 33) (pc' := 40) rfl (hb hby d11_33) rfl ((if0 _ _).trans (feq (hc : ¬ ((lcmpW (d0.toInt64) (d1.toInt64)) = (0 : Int32)))).2) (by decide) (by decide) ?_
          show own_S p e below T104 m 40 #[.val (.double d0), .second, .val (.double d1), .second, .val (.long (d0.toInt64)), .second, .val (.long (d1.toInt64)), .second] [] _
          refine XS.lload X104.here hx rfl (hb hby d11_40) rfl ?_
          show own_S p e below T104 m 42 #[.val (.double d0), .second, .val (.double d1), .second, .val (.long (d0.toInt64)), .second, .val (.long (d1.toInt64)), .second] [(.long (d0.toInt64))] _
          refine XS.lload X104.here hx rfl (hb hby d11_42) rfl ?_
          show own_S p e below T104 m 44 #[.val (.double d0), .second, .val (.double d1), .second, .val (.long (d0.toInt64)), .second, .val (.long (d1.toInt64)), .second] [(.long (d1.toInt64)), (.long (d0.toInt64))] _
          refine XS.lcmp X104.here hx rfl (hb hby d11_44) rfl ?_
          exact kt
        by_cases hd : (lcmpW (d0.toInt64) (d1.toInt64)) < (0 : Int32)
        · skip
          obtain ⟨fs, hr, hrun, hended, hW, hsame⟩ := X104.leave (v := some (.int (-1))) (fun h => by rw [Bd.returns] at h; cases h)
          refine ⟨_, _, pre0 _ (pre106 _ ?_), hrun, hended, _, _, rfl, ?_, ⟨_, rfl⟩, hW, hsame.mono (by decide) (by decide)⟩
          · show own_S p e below T104 m 45 #[.val (.double d0), .second, .val (.double d1), .second, .val (.long (d0.toInt64)), .second, .val (.long (d1.toInt64)), .second] [(.int (lcmpW (d0.toInt64) (d1.toInt64)))] _
            refine XS.ifNo X104.here hx rfl (hb hby d11_45) rfl ((if0 _ _).trans (tlt (hd : (lcmpW (d0.toInt64) (d1.toInt64)) < (0 : Int32))).2.1) ?_
            show own_S p e below T104 m 48 #[.val (.double d0), .second, .val (.double d1), .second, .val (.long (d0.toInt64)), .second, .val (.long (d1.toInt64)), .second] [] _
            refine XS.iconst X104.here hx rfl (hb hby d11_48) ?_
            show own_S p e below T104 m 49 #[.val (.double d0), .second, .val (.double d1), .second, .val (.long (d0.toInt64)), .second, .val (.long (d1.toInt64)), .second] [(.int (-1))] _
            refine XS.goto X104.here hx rfl (pc0 := 49) (pc' := 53) rfl (hb hby d11_49) (by decide) (by decide) ?_
            show own_S p e below T104 m 53 #[.val (.double d0), .second, .val (.double d1), .second, .val (.long (d0.toInt64)), .second, .val (.long (d1.toInt64)), .second] [(.int (-1))] _
            exact retOut X104 hx Bd.returns rfl (Or.inl ⟨rfl, Or.inl rfl, _, rfl⟩) (hb hby d11_53) hr
          · show Qm11 Z d0 d1 h0 n0 _ T104.heap _
            rw [P104_0]
            exact ⟨(by simp [own_cmpD, *]), N104, rfl⟩
        · skip
          obtain ⟨fs, hr, hrun, hended, hW, hsame⟩ := X104.leave (v := some (.int 1)) (fun h => by rw [Bd.returns] at h; cases h)
          refine ⟨_, _, pre0 _ (pre106 _ ?_), hrun, hended, _, _, rfl, ?_, ⟨_, rfl⟩, hW, hsame.mono (by decide) (by decide)⟩
          · show own_S p e below T104 m 45 #[.val (.double d0), .second, .val (.double d1), .second, .val (.long (d0.toInt64)), .second, .val (.long (d1.toInt64)), .second] [(.int (lcmpW (d0.toInt64) (d1.toInt64)))] _
            refine XS.ifYes X104.here hx rfl (pc0 := 45) (pc' := 52) rfl (hb hby d11_45) rfl ((if0 _ _).trans (flt (hd : ¬ ((lcmpW (d0.toInt64) (d1.toInt64)) < (0 : Int32)))).2.1) (by decide) (by decide) ?_
            show own_S p e below T104 m 52 #[.val (.double d0), .second, .val (.double d1), .second, .val (.long (d0.toInt64)), .second, .val (.long (d1.toInt64)), .second] [] _
            refine XS.iconst X104.here hx rfl (hb hby d11_52) ?_
            show own_S p e below T104 m 53 #[.val (.double d0), .second, .val (.double d1), .second, .val (.long (d0.toInt64)), .second, .val (.long (d1.toInt64)), .second] [(.int 1)] _
            exact retOut X104 hx Bd.returns rfl (Or.inl ⟨rfl, Or.inl rfl, _, rfl⟩) (hb hby d11_53) hr
          · show Qm11 Z d0 d1 h0 n0 _ T104.heap _
            rw [P104_0]
            exact ⟨(by simp [own_cmpD, *]), N104, rfl⟩
theorem pd3 : parseMethodDescriptor "(DD)I" = some ⟨[.double, .double], some .int⟩ := by decide +kernel
theorem d10_0 : decode prog_17_method_5_code 0 = .ok (.aload_n 1, 1) := by decide +kernel
theorem d10_1 : decode prog_17_method_5_code 1 = .ok (.instanceof 23, 3) := by decide +kernel
theorem d10_4 : decode prog_17_method_5_code 4 = .ok (.ifCond .eq 41, 3) := by decide +kernel
theorem d10_7 : decode prog_17_method_5_code 7 = .ok (.aload_n 0, 1) := by decide +kernel
theorem d10_8 : decode prog_17_method_5_code 8 = .ok (.getfield 22, 3) := by decide +kernel
theorem d10_11 : decode prog_17_method_5_code 11 = .ok (.aload_n 1, 1) := by decide +kernel
theorem d10_12 : decode prog_17_method_5_code 12 = .ok (.checkcast 23, 3) := by decide +kernel
theorem d10_15 : decode prog_17_method_5_code 15 = .ok (.getfield 22, 3) := by decide +kernel
theorem d10_18 : decode prog_17_method_5_code 18 = .ok (.invokestatic 40, 3) := by decide +kernel
theorem d10_21 : decode prog_17_method_5_code 21 = .ok (.ifCond .ne 24, 3) := by decide +kernel
theorem d10_24 : decode prog_17_method_5_code 24 = .ok (.aload_n 0, 1) := by decide +kernel
theorem d10_25 : decode prog_17_method_5_code 25 = .ok (.getfield 28, 3) := by decide +kernel
theorem d10_28 : decode prog_17_method_5_code 28 = .ok (.aload_n 1, 1) := by decide +kernel
theorem d10_29 : decode prog_17_method_5_code 29 = .ok (.checkcast 23, 3) := by decide +kernel
theorem d10_32 : decode prog_17_method_5_code 32 = .ok (.getfield 28, 3) := by decide +kernel
theorem d10_35 : decode prog_17_method_5_code 35 = .ok (.invokestatic 40, 3) := by decide +kernel
theorem d10_38 : decode prog_17_method_5_code 38 = .ok (.ifCond .ne 7, 3) := by decide +kernel
theorem d10_41 : decode prog_17_method_5_code 41 = .ok (.iconst 1, 1) := by decide +kernel
theorem d10_42 : decode prog_17_method_5_code 42 = .ok (.goto 4, 3) := by decide +kernel
theorem d10_45 : decode prog_17_method_5_code 45 = .ok (.iconst 0, 1) := by decide +kernel
theorem d10_46 : decode prog_17_method_5_code 46 = .ok (.ireturn, 1) := by decide +kernel
theorem efm10 (m : MethodId) (r0 : Addr) (r1 : Addr) : entryFrame m #[(.ref r0), (.ref r1)] 2 = mkF m 0 #[.val (.ref r0), .val (.ref r1)] [] := by first | (simp [entryFrame, mkF, argsToLocals, Value.category]; done) | rfl
def Qm10 (Z : State) (r0 : Addr) (r1 : Addr) (w0 : UInt64) (w1 : UInt64) (w2 : UInt64) (w3 : UInt64) (h0 : Heap) (n0 : Nat) (v : Option Value) (h : Heap) (L : List Loc) : Prop := v = some (.int (own_eq w0 w1 w2 w3)) ∧ Fr n0 L ∧ (h = h0)
set_option maxRecDepth 65536 in
set_option maxHeartbeats 40000000 in
theorem rmm10 (l : Launch) (Z : State) (a0 : Array Value) (hw : ∀ d ∈ tables_1, d.before a0 Z = true) (ws : List Jvm.Cond) (r0 : Addr) (r1 : Addr) (w0 : UInt64) (w1 : UInt64) (w2 : UInt64) (w3 : UInt64) (h0 : Heap) (n0 : Nat) (Z0 : n0 ≤ h0.size) (F_x_r0 : Fld Z h0 r0 "com/example/minisum/minisum/Point" "x" "D" (.double w0)) (F_y_r0 : Fld Z h0 r0 "com/example/minisum/minisum/Point" "y" "D" (.double w1)) (F_x_r1 : Fld Z h0 r1 "com/example/minisum/minisum/Point" "x" "D" (.double w2)) (F_y_r1 : Fld Z h0 r1 "com/example/minisum/minisum/Point" "y" "D" (.double w3)) (E_r1 : Exa Z h0 r1 "com/example/minisum/minisum/Point") (hna : NoNaN64 w0) (hnb : NoNaN64 w1) (hnc : NoNaN64 w2) (hnd : NoNaN64 w3) :
    MetFree l (⟨"com/example/minisum/minisum/Point", "equals", "(Ljava/lang/Object;)Z"⟩ : MethodName) (head1 (Jvm.Cond.code (⟨"com/example/minisum/minisum/Point", "equals", "(Ljava/lang/Object;)Z"⟩ : MethodName) prog_17_method_5_code 2 (some .boolean) :: ws) ({ frames := 3, cells := 0, slots := 0, locals := 47 } : Room)) (fun a U => a = #[(.ref r0), (.ref r1)] ∧ Z.Warmed39 U.vm ∧ U.heap = h0) (fun _ _ _ _ _ => True) (fun _ U o U' => ∃ v L, o = .returned v ∧ Qm10 Z r0 r1 w0 w1 w2 w3 h0 n0 v U'.heap L ∧ FrameEnd U o U' L ({ frames := 3, cells := 0, slots := 0, locals := 47 } : Room).cells ({ frames := 3, cells := 0, slots := 0, locals := 47 } : Room).slots) := by
  refine MetFree.of_bodySF (plainFor_of_name pn1) hisR ?_
  intro p e s m args below meth c s₁ Bd hml0 hP hK
  obtain ⟨rfl, hZ, hh⟩ := hP
  have hx := Bd.exec
  have hby := Bd.bytes
  have hml : c.maxLocals = 2 := hml0
  have hown : s.vm.findClass "com/example/minisum/minisum/Point" = some m.cls := findClass_of_methodNamed Bd.named
  have hnm := (name_of_methodNamed Bd.named Bd.method).1
  have X0 : Stand p l e ({ frames := 3, cells := 0, slots := 0, locals := 47 } : Room) s m #[(.ref r0), (.ref r1)] below meth c s₁ [] 0 0 := Stand.of_body Bd
  have e0 : s₁.heap = h0 := by rw [← hh, Bd.state]; rfl
  have N0 := Fr.nil n0
  have pre0 : ∀ t, Steps p.tables e below (s₁.setTop (mkF m 0 #[.val (.ref r0), .val (.ref r1)] [])) t → Steps p.tables e below (s₁.setTop (entryFrame m #[(.ref r0), (.ref r1)] 2)) t := fun t k => castTop (efm10 m r0 r1) k
  obtain ⟨T101, X101, e101, st101⟩ := instY X0 hx hZ hown (own_w hw 48 rfl) e0 (Ins.self E_r1) (g := (mkF m 1 #[.val (.ref r0), .val (.ref r1)] [(.ref r1)])) rfl rfl (hb hby d10_1)
  obtain ⟨T102, X102, e102, st102⟩ := getF X101 hx hZ hown (host := "") (Or.inl (own_w hw 18 rfl)) Via.refl e101 F_x_r0 (g := (mkF m 8 #[.val (.ref r0), .val (.ref r1)] [(.ref r0)])) rfl rfl (hb hby d10_8)
  obtain ⟨T103, X103, e103, st103⟩ := castY X102 hx hZ hown (own_w hw 48 rfl) e102 (Ins.self E_r1) (g := (mkF m 12 #[.val (.ref r0), .val (.ref r1)] [(.ref r1), (.double w0)])) rfl rfl (hb hby d10_12)
  obtain ⟨T104, X104, e104, st104⟩ := getF X103 hx hZ hown (host := "") (Or.inl (own_w hw 18 rfl)) Via.refl e103 F_x_r1 (g := (mkF m 15 #[.val (.ref r0), .val (.ref r1)] [(.ref r1), (.double w0)])) rfl rfl (hb hby d10_15)
  obtain ⟨_, _, ⟨T105, L105, k105, n105⟩, -, X105, ⟨Lc105, hQ105, l105, y105, z105⟩, st105⟩ := Jvm.LawKit.callS X104 hx (y := (⟨"java/lang/Double", "compare", "(DD)I"⟩ : MethodName)) hown (mvT hZ (own_w hw 50 rfl)) (mvT hZ (own_w hw 51 rfl)) (mvT hZ (own_w hw 11 rfl)) (mvT hZ (own_w hw 52 rfl)) (by decide) (backOf (W := 0) (rmm11 l Z a0 hw [] w0 w2 h0 n0 Z0 hna hnc) hZ (own_w hw 52 rfl) (own_w hw 11 rfl) (by decide) (by decide)) (g := (mkF m 18 #[.val (.ref r0), .val (.ref r1)] [(.double w2), (.double w0)])) rfl (by rw [hml]; rfl) (argsL := [(.double w0), (.double w2)]) (rest := []) (lenOf pd3 rfl) rfl (by show 2 * 0 + _ ≤ _; exact Nat.le_of_eq rfl) (hb hby d10_18) (fun _ _ => ⟨rfl, e104, (by decide : 0 + 0 ≤ _), (by decide : 0 + 0 ≤ _)⟩)
  dsimp only [Pt.U, Pt.locs, Pt.cells, Pt.slots] at X105 l105 y105 z105 st105 hQ105
  subst l105 y105 z105
  obtain ⟨rfl, Nq105, P105_0⟩ := hQ105
  have N105 := Fr.app N0 Nq105
  have pre106 : ∀ t, Steps p.tables e below (T105.setTop (mkF m 21 #[.val (.ref r0), .val (.ref r1)] [(.int (own_cmpD w0 w2))])) t → Steps p.tables e below (s₁.setTop (mkF m 0 #[.val (.ref r0), .val (.ref r1)] [])) t := by
    intro t kt
    show own_S p e below s₁ m 0 #[.val (.ref r0), .val (.ref r1)] [] _
    refine XS.aloadN X0.here hx rfl (hb hby d10_0) rfl rfl ?_
    show own_S p e below s₁ m 1 #[.val (.ref r0), .val (.ref r1)] [(.ref r1)] _
    refine st101 _ ?_
    show own_S p e below T101 m 4 #[.val (.ref r0), .val (.ref r1)] [(.int 1)] _
    refine XS.ifNo X101.here hx rfl (hb hby d10_4) rfl ((if0 _ _).trans (feq (by decide : ¬ ((1 : Int32) = (0 : Int32)))).1) ?_
    show own_S p e below T101 m 7 #[.val (.ref r0), .val (.ref r1)] [] _
    refine XS.aloadN X101.here hx rfl (hb hby d10_7) rfl rfl ?_
    show own_S p e below T101 m 8 #[.val (.ref r0), .val (.ref r1)] [(.ref r0)] _
    refine st102 _ ?_
    show own_S p e below T102 m 11 #[.val (.ref r0), .val (.ref r1)] [(.double w0)] _
    refine XS.aloadN X102.here hx rfl (hb hby d10_11) rfl rfl ?_
    show own_S p e below T102 m 12 #[.val (.ref r0), .val (.ref r1)] [(.ref r1), (.double w0)] _
    refine st103 _ ?_
    show own_S p e below T103 m 15 #[.val (.ref r0), .val (.ref r1)] [(.ref r1), (.double w0)] _
    refine st104 _ ?_
    show own_S p e below T104 m 18 #[.val (.ref r0), .val (.ref r1)] [(.double w2), (.double w0)] _
    refine st105 _ ?_
    exact kt
  by_cases hx1 : (own_cmpD w0 w2) = (0 : Int32)
  · skip
    obtain ⟨T107, X107, e107, st107⟩ := getF X105 hx hZ hown (host := "") (Or.inl (own_w hw 20 rfl)) Via.refl P105_0 F_y_r0 (g := (mkF m 25 #[.val (.ref r0), .val (.ref r1)] [(.ref r0)])) rfl rfl (hb hby d10_25)
    obtain ⟨T108, X108, e108, st108⟩ := castY X107 hx hZ hown (own_w hw 48 rfl) e107 (Ins.self E_r1) (g := (mkF m 29 #[.val (.ref r0), .val (.ref r1)] [(.ref r1), (.double w1)])) rfl rfl (hb hby d10_29)
    obtain ⟨T109, X109, e109, st109⟩ := getF X108 hx hZ hown (host := "") (Or.inl (own_w hw 20 rfl)) Via.refl e108 F_y_r1 (g := (mkF m 32 #[.val (.ref r0), .val (.ref r1)] [(.ref r1), (.double w1)])) rfl rfl (hb hby d10_32)
    obtain ⟨_, _, ⟨T110, L110, k110, n110⟩, -, X110, ⟨Lc110, hQ110, l110, y110, z110⟩, st110⟩ := Jvm.LawKit.callS X109 hx (y := (⟨"java/lang/Double", "compare", "(DD)I"⟩ : MethodName)) hown (mvT hZ (own_w hw 50 rfl)) (mvT hZ (own_w hw 51 rfl)) (mvT hZ (own_w hw 11 rfl)) (mvT hZ (own_w hw 52 rfl)) (by decide) (backOf (W := 0) (rmm11 l Z a0 hw [] w1 w3 h0 n0 Z0 hnb hnd) hZ (own_w hw 52 rfl) (own_w hw 11 rfl) (by decide) (by decide)) (g := (mkF m 35 #[.val (.ref r0), .val (.ref r1)] [(.double w3), (.double w1)])) rfl (by rw [hml]; rfl) (argsL := [(.double w1), (.double w3)]) (rest := []) (lenOf pd3 rfl) rfl (by show 2 * 0 + _ ≤ _; exact Nat.le_of_eq rfl) (hb hby d10_35) (fun _ _ => ⟨rfl, e109, (by decide : 0 + 0 ≤ _), (by decide : 0 + 0 ≤ _)⟩)
    dsimp only [Pt.U, Pt.locs, Pt.cells, Pt.slots] at X110 l110 y110 z110 st110 hQ110
    subst l110 y110 z110
    obtain ⟨rfl, Nq110, P110_0⟩ := hQ110
    have N110 := Fr.app N105 Nq110
    have pre111 : ∀ t, Steps p.tables e below (T110.setTop (mkF m 38 #[.val (.ref r0), .val (.ref r1)] [(.int (own_cmpD w1 w3))])) t → Steps p.tables e below (s₁.setTop (mkF m 0 #[.val (.ref r0), .val (.ref r1)] [])) t := by
      intro t kt
      refine pre106 _ ?_
      show own_S p e below T105 m 21 #[.val (.ref r0), .val (.ref r1)] [(.int (own_cmpD w0 w2))] _
      refine XS.ifNo X105.here hx rfl (hb hby d10_21) rfl ((if0 _ _).trans (teq (hx1 : (own_cmpD w0 w2) = (0 : Int32))).2) ?_
      show own_S p e below T105 m 24 #[.val (.ref r0), .val (.ref r1)] [] _
      refine XS.aloadN X105.here hx rfl (hb hby d10_24) rfl rfl ?_
      show own_S p e below T105 m 25 #[.val (.ref r0), .val (.ref r1)] [(.ref r0)] _
      refine st107 _ ?_
      show own_S p e below T107 m 28 #[.val (.ref r0), .val (.ref r1)] [(.double w1)] _
      refine XS.aloadN X107.here hx rfl (hb hby d10_28) rfl rfl ?_
      show own_S p e below T107 m 29 #[.val (.ref r0), .val (.ref r1)] [(.ref r1), (.double w1)] _
      refine st108 _ ?_
      show own_S p e below T108 m 32 #[.val (.ref r0), .val (.ref r1)] [(.ref r1), (.double w1)] _
      refine st109 _ ?_
      show own_S p e below T109 m 35 #[.val (.ref r0), .val (.ref r1)] [(.double w3), (.double w1)] _
      refine st110 _ ?_
      exact kt
    by_cases hy1 : (own_cmpD w1 w3) = (0 : Int32)
    · skip
      obtain ⟨fs, hr, hrun, hended, hW, hsame⟩ := X110.leave (v := some (.int 1)) (fun h => by rw [Bd.returns] at h; cases h)
      refine ⟨_, _, pre0 _ (pre111 _ ?_), hrun, hended, _, _, rfl, ?_, ⟨_, rfl⟩, hW, hsame.mono (by decide) (by decide)⟩
      · show own_S p e below T110 m 38 #[.val (.ref r0), .val (.ref r1)] [(.int (own_cmpD w1 w3))] _
        refine XS.ifNo X110.here hx rfl (hb hby d10_38) rfl ((if0 _ _).trans (teq (hy1 : (own_cmpD w1 w3) = (0 : Int32))).2) ?_
        show own_S p e below T110 m 41 #[.val (.ref r0), .val (.ref r1)] [] _
        refine XS.iconst X110.here hx rfl (hb hby d10_41) ?_
        show own_S p e below T110 m 42 #[.val (.ref r0), .val (.ref r1)] [(.int 1)] _
        refine XS.goto X110.here hx rfl (pc0 := 42) (pc' := 46) rfl (hb hby d10_42) (by decide) (by decide) ?_
        show own_S p e below T110 m 46 #[.val (.ref r0), .val (.ref r1)] [(.int 1)] _
        exact retN X110 hx (t := .boolean) Bd.returns (by simp) (hb hby d10_46) hr
      · show Qm10 Z r0 r1 w0 w1 w2 w3 h0 n0 _ T110.heap _
        rw [P110_0]
        exact ⟨(by simp [own_eq, *]), N110, rfl⟩
    · skip
      obtain ⟨fs, hr, hrun, hended, hW, hsame⟩ := X110.leave (v := some (.int 0)) (fun h => by rw [Bd.returns] at h; cases h)
      refine ⟨_, _, pre0 _ (pre111 _ ?_), hrun, hended, _, _, rfl, ?_, ⟨_, rfl⟩, hW, hsame.mono (by decide) (by decide)⟩
      · show own_S p e below T110 m 38 #[.val (.ref r0), .val (.ref r1)] [(.int (own_cmpD w1 w3))] _
        refine XS.ifYes X110.here hx rfl (pc0 := 38) (pc' := 45) rfl (hb hby d10_38) rfl ((if0 _ _).trans (feq (hy1 : ¬ ((own_cmpD w1 w3) = (0 : Int32)))).2) (by decide) (by decide) ?_
        show own_S p e below T110 m 45 #[.val (.ref r0), .val (.ref r1)] [] _
        refine XS.iconst X110.here hx rfl (hb hby d10_45) ?_
        show own_S p e below T110 m 46 #[.val (.ref r0), .val (.ref r1)] [(.int 0)] _
        exact retN X110 hx (t := .boolean) Bd.returns (by simp) (hb hby d10_46) hr
      · show Qm10 Z r0 r1 w0 w1 w2 w3 h0 n0 _ T110.heap _
        rw [P110_0]
        exact ⟨(by simp [own_eq, *]), N110, rfl⟩
  · skip
    obtain ⟨fs, hr, hrun, hended, hW, hsame⟩ := X105.leave (v := some (.int 0)) (fun h => by rw [Bd.returns] at h; cases h)
    refine ⟨_, _, pre0 _ (pre106 _ ?_), hrun, hended, _, _, rfl, ?_, ⟨_, rfl⟩, hW, hsame.mono (by decide) (by decide)⟩
    · show own_S p e below T105 m 21 #[.val (.ref r0), .val (.ref r1)] [(.int (own_cmpD w0 w2))] _
      refine XS.ifYes X105.here hx rfl (pc0 := 21) (pc' := 45) rfl (hb hby d10_21) rfl ((if0 _ _).trans (feq (hx1 : ¬ ((own_cmpD w0 w2) = (0 : Int32)))).2) (by decide) (by decide) ?_
      show own_S p e below T105 m 45 #[.val (.ref r0), .val (.ref r1)] [] _
      refine XS.iconst X105.here hx rfl (hb hby d10_45) ?_
      show own_S p e below T105 m 46 #[.val (.ref r0), .val (.ref r1)] [(.int 0)] _
      exact retN X105 hx (t := .boolean) Bd.returns (by simp) (hb hby d10_46) hr
    · show Qm10 Z r0 r1 w0 w1 w2 w3 h0 n0 _ T105.heap _
      rw [P105_0]
      exact ⟨(by simp [own_eq, *]), N105, rfl⟩
theorem d9_0 : decode jdk_35_method_36_code 0 = .ok (.lload_n 0, 1) := by decide +kernel
theorem d9_1 : decode jdk_35_method_36_code 1 = .ok (.lload_n 0, 1) := by decide +kernel
theorem d9_2 : decode jdk_35_method_36_code 2 = .ok (.bipush 32, 2) := by decide +kernel
theorem d9_4 : decode jdk_35_method_36_code 4 = .ok (.lushr, 1) := by decide +kernel
theorem d9_5 : decode jdk_35_method_36_code 5 = .ok (.lxor, 1) := by decide +kernel
theorem d9_6 : decode jdk_35_method_36_code 6 = .ok (.l2i, 1) := by decide +kernel
theorem d9_7 : decode jdk_35_method_36_code 7 = .ok (.ireturn, 1) := by decide +kernel
theorem pn2 : plainName "java/lang/Long" = true := by first | (simp [plainName, overriddenIn]; done) | decide +kernel
theorem efm9 (m : MethodId) (q0 : Int64) : entryFrame m #[(.long q0)] 2 = mkF m 0 #[.val (.long q0), .second] [] := by first | (simp [entryFrame, mkF, argsToLocals, Value.category]; done) | rfl
def Qm9 (Z : State) (q0 : Int64) (h0 : Heap) (n0 : Nat) (v : Option Value) (h : Heap) (L : List Loc) : Prop := v = some (.int ((q0 ^^^ ((q0.toUInt64 >>> ((32 : Int32) &&& 0x3f).toInt64.toUInt64).toInt64)).toInt32)) ∧ Fr n0 L ∧ (h = h0)
set_option maxRecDepth 65536 in
set_option maxHeartbeats 40000000 in
theorem rmm9 (l : Launch) (Z : State) (a0 : Array Value) (hw : ∀ d ∈ tables_1, d.before a0 Z = true) (ws : List Jvm.Cond) (q0 : Int64) (h0 : Heap) (n0 : Nat) (Z0 : n0 ≤ h0.size)  :
    MetFree l (⟨"java/lang/Long", "hashCode", "(J)I"⟩ : MethodName) (head1 (Jvm.Cond.code (⟨"java/lang/Long", "hashCode", "(J)I"⟩ : MethodName) jdk_35_method_36_code 2 (some .int) :: ws) ({ frames := 0, cells := 0, slots := 0, locals := 0 } : Room)) (fun a U => a = #[(.long q0)] ∧ Z.Warmed39 U.vm ∧ U.heap = h0) (fun _ _ _ _ _ => True) (fun _ U o U' => ∃ v L, o = .returned v ∧ Qm9 Z q0 h0 n0 v U'.heap L ∧ FrameEnd U o U' L ({ frames := 0, cells := 0, slots := 0, locals := 0 } : Room).cells ({ frames := 0, cells := 0, slots := 0, locals := 0 } : Room).slots) := by
  refine MetFree.of_bodySF (plainFor_of_name pn2) hisR ?_
  intro p e s m args below meth c s₁ Bd hml0 hP hK
  obtain ⟨rfl, hZ, hh⟩ := hP
  have hx := Bd.exec
  have hby := Bd.bytes
  have hml : c.maxLocals = 2 := hml0
  have hown : s.vm.findClass "java/lang/Long" = some m.cls := findClass_of_methodNamed Bd.named
  have hnm := (name_of_methodNamed Bd.named Bd.method).1
  have X0 : Stand p l e ({ frames := 0, cells := 0, slots := 0, locals := 0 } : Room) s m #[(.long q0)] below meth c s₁ [] 0 0 := Stand.of_body Bd
  have e0 : s₁.heap = h0 := by rw [← hh, Bd.state]; rfl
  have N0 := Fr.nil n0
  have pre0 : ∀ t, Steps p.tables e below (s₁.setTop (mkF m 0 #[.val (.long q0), .second] [])) t → Steps p.tables e below (s₁.setTop (entryFrame m #[(.long q0)] 2)) t := fun t k => castTop (efm9 m q0) k
  obtain ⟨fs, hr, hrun, hended, hW, hsame⟩ := X0.leave (v := some (.int ((q0 ^^^ ((q0.toUInt64 >>> ((32 : Int32) &&& 0x3f).toInt64.toUInt64).toInt64)).toInt32))) (fun h => by rw [Bd.returns] at h; cases h)
  refine ⟨_, _, pre0 _ ?_, hrun, hended, _, _, rfl, ?_, ⟨_, rfl⟩, hW, hsame.mono (by decide) (by decide)⟩
  · show own_S p e below s₁ m 0 #[.val (.long q0), .second] [] _
    refine XS.lloadN X0.here hx rfl (hb hby d9_0) rfl ?_
    show own_S p e below s₁ m 1 #[.val (.long q0), .second] [(.long q0)] _
    refine XS.lloadN X0.here hx rfl (hb hby d9_1) rfl ?_
    show own_S p e below s₁ m 2 #[.val (.long q0), .second] [(.long q0), (.long q0)] _
    refine XS.bipush X0.here hx rfl (hb hby d9_2) ?_
    show own_S p e below s₁ m 4 #[.val (.long q0), .second] [(.int 32), (.long q0), (.long q0)] _
    refine XS.lushr X0.here hx rfl (hb hby d9_4) rfl ?_
    show own_S p e below s₁ m 5 #[.val (.long q0), .second] [(.long ((q0.toUInt64 >>> ((32 : Int32) &&& 0x3f).toInt64.toUInt64).toInt64)), (.long q0)] _
    refine XS.lxor X0.here hx rfl (hb hby d9_5) rfl ?_
    show own_S p e below s₁ m 6 #[.val (.long q0), .second] [(.long (q0 ^^^ ((q0.toUInt64 >>> ((32 : Int32) &&& 0x3f).toInt64.toUInt64).toInt64)))] _
    refine XS.l2i X0.here hx rfl (hb hby d9_6) rfl ?_
    show own_S p e below s₁ m 7 #[.val (.long q0), .second] [(.int ((q0 ^^^ ((q0.toUInt64 >>> ((32 : Int32) &&& 0x3f).toInt64.toUInt64).toInt64)).toInt32))] _
    exact retOut X0 hx Bd.returns rfl (Or.inl ⟨rfl, Or.inl rfl, _, rfl⟩) (hb hby d9_7) hr
  · show Qm9 Z q0 h0 n0 _ s₁.heap _
    rw [e0]
    exact ⟨rfl, N0, rfl⟩
theorem pd4 : parseMethodDescriptor "(J)I" = some ⟨[.long], some .int⟩ := by decide +kernel
theorem d6_0 : decode jdk_117_method_21_code 0 = .ok (.dload_n 0, 1) := by decide +kernel
theorem d6_1 : decode jdk_117_method_21_code 1 = .ok (.invokestatic 46, 3) := by decide +kernel
theorem d6_4 : decode jdk_117_method_21_code 4 = .ok (.invokestatic 131, 3) := by decide +kernel
theorem d6_7 : decode jdk_117_method_21_code 7 = .ok (.ireturn, 1) := by decide +kernel
theorem efm6 (m : MethodId) (d0 : UInt64) : entryFrame m #[(.double d0)] 2 = mkF m 0 #[.val (.double d0), .second] [] := by first | (simp [entryFrame, mkF, argsToLocals, Value.category]; done) | rfl
def Qm6 (Z : State) (d0 : UInt64) (h0 : Heap) (n0 : Nat) (v : Option Value) (h : Heap) (L : List Loc) : Prop := v = some (.int (own_hd d0)) ∧ Fr n0 L ∧ (h = h0)
set_option maxRecDepth 65536 in
set_option maxHeartbeats 40000000 in
theorem rmm6 (l : Launch) (Z : State) (a0 : Array Value) (hw : ∀ d ∈ tables_1, d.before a0 Z = true) (ws : List Jvm.Cond) (d0 : UInt64) (h0 : Heap) (n0 : Nat) (Z0 : n0 ≤ h0.size) (hn : NoNaN64 d0) :
    MetFree l (⟨"java/lang/Double", "hashCode", "(D)I"⟩ : MethodName) (head1 (Jvm.Cond.code (⟨"java/lang/Double", "hashCode", "(D)I"⟩ : MethodName) jdk_117_method_21_code 2 (some .int) :: ws) ({ frames := 2, cells := 0, slots := 0, locals := 28 } : Room)) (fun a U => a = #[(.double d0)] ∧ Z.Warmed39 U.vm ∧ U.heap = h0) (fun _ _ _ _ _ => True) (fun _ U o U' => ∃ v L, o = .returned v ∧ Qm6 Z d0 h0 n0 v U'.heap L ∧ FrameEnd U o U' L ({ frames := 2, cells := 0, slots := 0, locals := 28 } : Room).cells ({ frames := 2, cells := 0, slots := 0, locals := 28 } : Room).slots) := by
  refine MetFree.of_bodySF (plainFor_of_name pn0) hisR ?_
  intro p e s m args below meth c s₁ Bd hml0 hP hK
  obtain ⟨rfl, hZ, hh⟩ := hP
  have hx := Bd.exec
  have hby := Bd.bytes
  have hml : c.maxLocals = 2 := hml0
  have hown : s.vm.findClass "java/lang/Double" = some m.cls := findClass_of_methodNamed Bd.named
  have hnm := (name_of_methodNamed Bd.named Bd.method).1
  have X0 : Stand p l e ({ frames := 2, cells := 0, slots := 0, locals := 28 } : Room) s m #[(.double d0)] below meth c s₁ [] 0 0 := Stand.of_body Bd
  have e0 : s₁.heap = h0 := by rw [← hh, Bd.state]; rfl
  have N0 := Fr.nil n0
  have pre0 : ∀ t, Steps p.tables e below (s₁.setTop (mkF m 0 #[.val (.double d0), .second] [])) t → Steps p.tables e below (s₁.setTop (entryFrame m #[(.double d0)] 2)) t := fun t k => castTop (efm6 m d0) k
  obtain ⟨_, _, ⟨T101, L101, k101, n101⟩, -, X101, ⟨Lc101, hQ101, l101, y101, z101⟩, st101⟩ := Jvm.LawKit.callS X0 hx (y := (⟨"java/lang/Double", "doubleToLongBits", "(D)J"⟩ : MethodName)) hown (mvT hZ (own_w hw 30 rfl)) (mvT hZ (own_w hw 31 rfl)) (mvT hZ (own_w hw 11 rfl)) (mvT hZ (own_w hw 32 rfl)) (by decide) (backOf (W := 0) (rmm7 l Z a0 hw [] d0 h0 n0 Z0 hn) hZ (own_w hw 32 rfl) (own_w hw 11 rfl) (by decide) (by decide)) (g := (mkF m 1 #[.val (.double d0), .second] [(.double d0)])) rfl (by rw [hml]; rfl) (argsL := [(.double d0)]) (rest := []) (lenOf pd2 rfl) rfl (by show 2 * 0 + _ ≤ _; exact Nat.le_of_eq rfl) (hb hby d6_1) (fun _ _ => ⟨rfl, e0, (by decide : 0 + 0 ≤ _), (by decide : 0 + 0 ≤ _)⟩)
  dsimp only [Pt.U, Pt.locs, Pt.cells, Pt.slots] at X101 l101 y101 z101 st101 hQ101
  subst l101 y101 z101
  obtain ⟨rfl, Nq101, P101_0⟩ := hQ101
  have N101 := Fr.app N0 Nq101
  obtain ⟨_, _, ⟨T102, L102, k102, n102⟩, -, X102, ⟨Lc102, hQ102, l102, y102, z102⟩, st102⟩ := Jvm.LawKit.callS X101 hx (y := (⟨"java/lang/Long", "hashCode", "(J)I"⟩ : MethodName)) hown (mvT hZ (own_w hw 39 rfl)) (mvT hZ (own_w hw 40 rfl)) (mvT hZ (own_w hw 41 rfl)) (mvT hZ (own_w hw 42 rfl)) (by decide) (backOf (W := 0) (rmm9 l Z a0 hw [] (d0.toInt64) h0 n0 Z0 ) hZ (own_w hw 42 rfl) (own_w hw 41 rfl) (by decide) (by decide)) (g := (mkF m 4 #[.val (.double d0), .second] [(.long (d0.toInt64))])) rfl (by rw [hml]; rfl) (argsL := [(.long (d0.toInt64))]) (rest := []) (lenOf pd4 rfl) rfl (by show 2 * 0 + _ ≤ _; exact Nat.le_of_eq rfl) (hb hby d6_4) (fun _ _ => ⟨rfl, P101_0, (by decide : 0 + 0 ≤ _), (by decide : 0 + 0 ≤ _)⟩)
  dsimp only [Pt.U, Pt.locs, Pt.cells, Pt.slots] at X102 l102 y102 z102 st102 hQ102
  subst l102 y102 z102
  obtain ⟨rfl, Nq102, P102_0⟩ := hQ102
  have N102 := Fr.app N101 Nq102
  obtain ⟨fs, hr, hrun, hended, hW, hsame⟩ := X102.leave (v := some (.int (own_hd d0))) (fun h => by rw [Bd.returns] at h; cases h)
  refine ⟨_, _, pre0 _ ?_, hrun, hended, _, _, rfl, ?_, ⟨_, rfl⟩, hW, hsame.mono (by decide) (by decide)⟩
  · show own_S p e below s₁ m 0 #[.val (.double d0), .second] [] _
    refine XS.dloadN X0.here hx rfl (hb hby d6_0) rfl ?_
    show own_S p e below s₁ m 1 #[.val (.double d0), .second] [(.double d0)] _
    refine st101 _ ?_
    show own_S p e below T101 m 4 #[.val (.double d0), .second] [(.long (d0.toInt64))] _
    refine st102 _ ?_
    show own_S p e below T102 m 7 #[.val (.double d0), .second] [(.int (((d0.toInt64) ^^^ (((d0.toInt64).toUInt64 >>> ((32 : Int32) &&& 0x3f).toInt64.toUInt64).toInt64)).toInt32))] _
    refine reI (rfl : (((d0.toInt64) ^^^ (((d0.toInt64).toUInt64 >>> ((32 : Int32) &&& 0x3f).toInt64.toUInt64).toInt64)).toInt32) = (own_hd d0)) ?_
    show own_S p e below T102 m 7 #[.val (.double d0), .second] [(.int (own_hd d0))] _
    exact retOut X102 hx Bd.returns rfl (Or.inl ⟨rfl, Or.inl rfl, _, rfl⟩) (hb hby d6_7) hr
  · show Qm6 Z d0 h0 n0 _ T102.heap _
    rw [P102_0]
    exact ⟨rfl, N102, rfl⟩
theorem pd5 : parseMethodDescriptor "(D)I" = some ⟨[.double], some .int⟩ := by decide +kernel
theorem d5_0 : decode prog_17_method_6_code 0 = .ok (.bipush 31, 2) := by decide +kernel
theorem d5_2 : decode prog_17_method_6_code 2 = .ok (.aload_n 0, 1) := by decide +kernel
theorem d5_3 : decode prog_17_method_6_code 3 = .ok (.getfield 22, 3) := by decide +kernel
theorem d5_6 : decode prog_17_method_6_code 6 = .ok (.invokestatic 44, 3) := by decide +kernel
theorem d5_9 : decode prog_17_method_6_code 9 = .ok (.imul, 1) := by decide +kernel
theorem d5_10 : decode prog_17_method_6_code 10 = .ok (.aload_n 0, 1) := by decide +kernel
theorem d5_11 : decode prog_17_method_6_code 11 = .ok (.getfield 28, 3) := by decide +kernel
theorem d5_14 : decode prog_17_method_6_code 14 = .ok (.invokestatic 44, 3) := by decide +kernel
theorem d5_17 : decode prog_17_method_6_code 17 = .ok (.iadd, 1) := by decide +kernel
theorem d5_18 : decode prog_17_method_6_code 18 = .ok (.ireturn, 1) := by decide +kernel
theorem efm5 (m : MethodId) (r0 : Addr) : entryFrame m #[(.ref r0)] 1 = mkF m 0 #[.val (.ref r0)] [] := by first | (simp [entryFrame, mkF, argsToLocals, Value.category]; done) | rfl
def Qm5 (Z : State) (r0 : Addr) (w0 : UInt64) (w1 : UInt64) (h0 : Heap) (n0 : Nat) (v : Option Value) (h : Heap) (L : List Loc) : Prop := v = some (.int (own_hash w0 w1)) ∧ Fr n0 L ∧ (h = h0)
set_option maxRecDepth 65536 in
set_option maxHeartbeats 40000000 in
theorem rmm5 (l : Launch) (Z : State) (a0 : Array Value) (hw : ∀ d ∈ tables_1, d.before a0 Z = true) (ws : List Jvm.Cond) (r0 : Addr) (w0 : UInt64) (w1 : UInt64) (h0 : Heap) (n0 : Nat) (Z0 : n0 ≤ h0.size) (F_x_r0 : Fld Z h0 r0 "com/example/minisum/minisum/Point" "x" "D" (.double w0)) (F_y_r0 : Fld Z h0 r0 "com/example/minisum/minisum/Point" "y" "D" (.double w1)) (hna : NoNaN64 w0) (hnb : NoNaN64 w1) :
    MetFree l (⟨"com/example/minisum/minisum/Point", "hashCode", "()I"⟩ : MethodName) (head1 (Jvm.Cond.code (⟨"com/example/minisum/minisum/Point", "hashCode", "()I"⟩ : MethodName) prog_17_method_6_code 1 (some .int) :: ws) ({ frames := 3, cells := 0, slots := 0, locals := 42 } : Room)) (fun a U => a = #[(.ref r0)] ∧ Z.Warmed39 U.vm ∧ U.heap = h0) (fun _ _ _ _ _ => True) (fun _ U o U' => ∃ v L, o = .returned v ∧ Qm5 Z r0 w0 w1 h0 n0 v U'.heap L ∧ FrameEnd U o U' L ({ frames := 3, cells := 0, slots := 0, locals := 42 } : Room).cells ({ frames := 3, cells := 0, slots := 0, locals := 42 } : Room).slots) := by
  refine MetFree.of_bodySF (plainFor_of_name pn1) hisR ?_
  intro p e s m args below meth c s₁ Bd hml0 hP hK
  obtain ⟨rfl, hZ, hh⟩ := hP
  have hx := Bd.exec
  have hby := Bd.bytes
  have hml : c.maxLocals = 1 := hml0
  have hown : s.vm.findClass "com/example/minisum/minisum/Point" = some m.cls := findClass_of_methodNamed Bd.named
  have hnm := (name_of_methodNamed Bd.named Bd.method).1
  have X0 : Stand p l e ({ frames := 3, cells := 0, slots := 0, locals := 42 } : Room) s m #[(.ref r0)] below meth c s₁ [] 0 0 := Stand.of_body Bd
  have e0 : s₁.heap = h0 := by rw [← hh, Bd.state]; rfl
  have N0 := Fr.nil n0
  have pre0 : ∀ t, Steps p.tables e below (s₁.setTop (mkF m 0 #[.val (.ref r0)] [])) t → Steps p.tables e below (s₁.setTop (entryFrame m #[(.ref r0)] 1)) t := fun t k => castTop (efm5 m r0) k
  obtain ⟨T101, X101, e101, st101⟩ := getF X0 hx hZ hown (host := "") (Or.inl (own_w hw 18 rfl)) Via.refl e0 F_x_r0 (g := (mkF m 3 #[.val (.ref r0)] [(.ref r0), (.int 31)])) rfl rfl (hb hby d5_3)
  obtain ⟨_, _, ⟨T102, L102, k102, n102⟩, -, X102, ⟨Lc102, hQ102, l102, y102, z102⟩, st102⟩ := Jvm.LawKit.callS X101 hx (y := (⟨"java/lang/Double", "hashCode", "(D)I"⟩ : MethodName)) hown (mvT hZ (own_w hw 27 rfl)) (mvT hZ (own_w hw 28 rfl)) (mvT hZ (own_w hw 11 rfl)) (mvT hZ (own_w hw 29 rfl)) (by decide) (backOf (W := 1) (rmm6 l Z a0 hw [] w0 h0 n0 Z0 hna) hZ (own_w hw 29 rfl) (own_w hw 11 rfl) (by decide) (by decide)) (g := (mkF m 6 #[.val (.ref r0)] [(.double w0), (.int 31)])) rfl (by rw [hml]; rfl) (argsL := [(.double w0)]) (rest := [(.int 31)]) (lenOf pd5 rfl) rfl (by show 2 * 0 + _ ≤ _; exact Nat.le_of_eq rfl) (hb hby d5_6) (fun _ _ => ⟨rfl, e101, (by decide : 0 + 0 ≤ _), (by decide : 0 + 0 ≤ _)⟩)
  dsimp only [Pt.U, Pt.locs, Pt.cells, Pt.slots] at X102 l102 y102 z102 st102 hQ102
  subst l102 y102 z102
  obtain ⟨rfl, Nq102, P102_0⟩ := hQ102
  have N102 := Fr.app N0 Nq102
  obtain ⟨T103, X103, e103, st103⟩ := getF X102 hx hZ hown (host := "") (Or.inl (own_w hw 20 rfl)) Via.refl P102_0 F_y_r0 (g := (mkF m 11 #[.val (.ref r0)] [(.ref r0), (.int ((31 : Int32) * (own_hd w0)))])) rfl rfl (hb hby d5_11)
  obtain ⟨_, _, ⟨T104, L104, k104, n104⟩, -, X104, ⟨Lc104, hQ104, l104, y104, z104⟩, st104⟩ := Jvm.LawKit.callS X103 hx (y := (⟨"java/lang/Double", "hashCode", "(D)I"⟩ : MethodName)) hown (mvT hZ (own_w hw 27 rfl)) (mvT hZ (own_w hw 28 rfl)) (mvT hZ (own_w hw 11 rfl)) (mvT hZ (own_w hw 29 rfl)) (by decide) (backOf (W := 1) (rmm6 l Z a0 hw [] w1 h0 n0 Z0 hnb) hZ (own_w hw 29 rfl) (own_w hw 11 rfl) (by decide) (by decide)) (g := (mkF m 14 #[.val (.ref r0)] [(.double w1), (.int ((31 : Int32) * (own_hd w0)))])) rfl (by rw [hml]; rfl) (argsL := [(.double w1)]) (rest := [(.int ((31 : Int32) * (own_hd w0)))]) (lenOf pd5 rfl) rfl (by show 2 * 0 + _ ≤ _; exact Nat.le_of_eq rfl) (hb hby d5_14) (fun _ _ => ⟨rfl, e103, (by decide : 0 + 0 ≤ _), (by decide : 0 + 0 ≤ _)⟩)
  dsimp only [Pt.U, Pt.locs, Pt.cells, Pt.slots] at X104 l104 y104 z104 st104 hQ104
  subst l104 y104 z104
  obtain ⟨rfl, Nq104, P104_0⟩ := hQ104
  have N104 := Fr.app N102 Nq104
  obtain ⟨fs, hr, hrun, hended, hW, hsame⟩ := X104.leave (v := some (.int (own_hash w0 w1))) (fun h => by rw [Bd.returns] at h; cases h)
  refine ⟨_, _, pre0 _ ?_, hrun, hended, _, _, rfl, ?_, ⟨_, rfl⟩, hW, hsame.mono (by decide) (by decide)⟩
  · show own_S p e below s₁ m 0 #[.val (.ref r0)] [] _
    refine XS.bipush X0.here hx rfl (hb hby d5_0) ?_
    show own_S p e below s₁ m 2 #[.val (.ref r0)] [(.int 31)] _
    refine XS.aloadN X0.here hx rfl (hb hby d5_2) rfl rfl ?_
    show own_S p e below s₁ m 3 #[.val (.ref r0)] [(.ref r0), (.int 31)] _
    refine st101 _ ?_
    show own_S p e below T101 m 6 #[.val (.ref r0)] [(.double w0), (.int 31)] _
    refine st102 _ ?_
    show own_S p e below T102 m 9 #[.val (.ref r0)] [(.int (own_hd w0)), (.int 31)] _
    refine XS.imul X102.here hx rfl (hb hby d5_9) rfl ?_
    show own_S p e below T102 m 10 #[.val (.ref r0)] [(.int ((31 : Int32) * (own_hd w0)))] _
    refine XS.aloadN X102.here hx rfl (hb hby d5_10) rfl rfl ?_
    show own_S p e below T102 m 11 #[.val (.ref r0)] [(.ref r0), (.int ((31 : Int32) * (own_hd w0)))] _
    refine st103 _ ?_
    show own_S p e below T103 m 14 #[.val (.ref r0)] [(.double w1), (.int ((31 : Int32) * (own_hd w0)))] _
    refine st104 _ ?_
    show own_S p e below T104 m 17 #[.val (.ref r0)] [(.int (own_hd w1)), (.int ((31 : Int32) * (own_hd w0)))] _
    refine XS.iadd X104.here hx rfl (hb hby d5_17) rfl ?_
    show own_S p e below T104 m 18 #[.val (.ref r0)] [(.int (((31 : Int32) * (own_hd w0)) + (own_hd w1)))] _
    refine reI (rfl : (((31 : Int32) * (own_hd w0)) + (own_hd w1)) = (own_hash w0 w1)) ?_
    show own_S p e below T104 m 18 #[.val (.ref r0)] [(.int (own_hash w0 w1))] _
    exact retOut X104 hx Bd.returns rfl (Or.inl ⟨rfl, Or.inl rfl, _, rfl⟩) (hb hby d5_18) hr
  · show Qm5 Z r0 w0 w1 h0 n0 _ T104.heap _
    rw [P104_0]
    exact ⟨rfl, N104, rfl⟩
theorem pd6 : parseMethodDescriptor "(DD)V" = some ⟨[.double, .double], none⟩ := by decide +kernel
theorem pd7 : parseMethodDescriptor "()I" = some ⟨[], some .int⟩ := by decide +kernel
theorem pd8 : parseMethodDescriptor "(Ljava/lang/Object;)Z" = some ⟨[(.object "java/lang/Object")], some .boolean⟩ := by decide +kernel
theorem pn3 : plainName "com/example/minisum/minisum/PointHashCodePinLaw" = true := by first | (simp [plainName, overriddenIn]; done) | decide +kernel
theorem efm0 (m : MethodId) (p0 : Int32) (p1 : Int32) (p2 : Int32) (p3 : Int32) (p4 : Int32) : entryFrame m #[(.int p0), (.int p1), (.int p2), (.int p3), (.int p4)] maxLocals = mkF m 0 #[.val (.int p0), .val (.int p1), .val (.int p2), .val (.int p3), .val (.int p4), .unset, .unset, .unset, .unset, .unset, .unset, .unset, .unset, .unset, .unset, .unset, .unset, .unset, .unset, .unset, .unset] [] := by first | (simp [entryFrame, mkF, argsToLocals, Value.category, maxLocals]; done) | rfl
def Qm0 (Z : State) (p0 : Int32) (p1 : Int32) (p2 : Int32) (p3 : Int32) (p4 : Int32) (h0 : Heap) (n0 : Nat) (v : Option Value) (h : Heap) (L : List Loc) : Prop := v = some (.int 1) ∧ Fr n0 L
set_option maxRecDepth 65536 in
set_option maxHeartbeats 40000000 in
theorem rmm0 (l : Launch) (Z : State) (a0 : Array Value) (hw : ∀ d ∈ tables_1, d.before a0 Z = true) (ws : List Jvm.Cond) (p0 : Int32) (p1 : Int32) (p2 : Int32) (p3 : Int32) (p4 : Int32) (h0 : Heap) (n0 : Nat) (Z0 : n0 ≤ h0.size)  :
    MetFree l x (head1 (Jvm.Cond.code x code maxLocals ret :: ws) room_1) (fun a U => a = #[(.int p0), (.int p1), (.int p2), (.int p3), (.int p4)] ∧ Z.Warmed39 U.vm ∧ U.heap = h0) (fun _ _ _ _ _ => True) (fun _ U o U' => ∃ v L, o = .returned v ∧ Qm0 Z p0 p1 p2 p3 p4 h0 n0 v U'.heap L ∧ FrameEnd U o U' L room_1.cells room_1.slots) := by
  refine MetFree.of_bodySF (plainFor_of_name pn3) hisR ?_
  intro p e s m args below meth c s₁ Bd hml0 hP hK
  obtain ⟨rfl, hZ, hh⟩ := hP
  have hx := Bd.exec
  have hby := Bd.bytes
  have hml : c.maxLocals = 21 := hml0
  have hown : s.vm.findClass "com/example/minisum/minisum/PointHashCodePinLaw" = some m.cls := findClass_of_methodNamed Bd.named
  have hnm := (name_of_methodNamed Bd.named Bd.method).1
  have X0 : Stand p l e room_1 s m #[(.int p0), (.int p1), (.int p2), (.int p3), (.int p4)] below meth c s₁ [] 0 0 := Stand.of_body Bd
  have e0 : s₁.heap = h0 := by rw [← hh, Bd.state]; rfl
  have N0 := Fr.nil n0
  have pre0 : ∀ t, Steps p.tables e below (s₁.setTop (mkF m 0 #[.val (.int p0), .val (.int p1), .val (.int p2), .val (.int p3), .val (.int p4), .unset, .unset, .unset, .unset, .unset, .unset, .unset, .unset, .unset, .unset, .unset, .unset, .unset, .unset, .unset, .unset] [])) t → Steps p.tables e below (s₁.setTop (entryFrame m #[(.int p0), (.int p1), (.int p2), (.int p3), (.int p4)] maxLocals)) t := fun t k => castTop (efm0 m p0 p1 p2 p3 p4) k
  have pre101 : ∀ t, Steps p.tables e below (s₁.setTop (mkF m 4 #[.val (.int p0), .val (.int p1), .val (.int p2), .val (.int p3), .val (.int p4), .unset, .unset, .unset, .unset, .unset, .unset, .unset, .unset, .unset, .unset, .unset, .unset, .unset, .unset, .unset, .unset] [(.int (p4 &&& (1 : Int32)))])) t → Steps p.tables e below (s₁.setTop (mkF m 0 #[.val (.int p0), .val (.int p1), .val (.int p2), .val (.int p3), .val (.int p4), .unset, .unset, .unset, .unset, .unset, .unset, .unset, .unset, .unset, .unset, .unset, .unset, .unset, .unset, .unset, .unset] [])) t := by
    intro t kt
    show own_S p e below s₁ m 0 #[.val (.int p0), .val (.int p1), .val (.int p2), .val (.int p3), .val (.int p4), .unset, .unset, .unset, .unset, .unset, .unset, .unset, .unset, .unset, .unset, .unset, .unset, .unset, .unset, .unset, .unset] [] _
    refine XS.iload X0.here hx rfl (hb hby at_0) rfl ?_
    show own_S p e below s₁ m 2 #[.val (.int p0), .val (.int p1), .val (.int p2), .val (.int p3), .val (.int p4), .unset, .unset, .unset, .unset, .unset, .unset, .unset, .unset, .unset, .unset, .unset, .unset, .unset, .unset, .unset, .unset] [(.int p4)] _
    refine XS.iconst X0.here hx rfl (hb hby at_2) ?_
    show own_S p e below s₁ m 3 #[.val (.int p0), .val (.int p1), .val (.int p2), .val (.int p3), .val (.int p4), .unset, .unset, .unset, .unset, .unset, .unset, .unset, .unset, .unset, .unset, .unset, .unset, .unset, .unset, .unset, .unset] [(.int 1), (.int p4)] _
    refine XS.iand X0.here hx rfl (hb hby at_3) rfl ?_
    exact kt
  by_cases hsame : (p4 &&& (1 : Int32)) = (0 : Int32)
  · skip
    have pre102 : ∀ t, Steps p.tables e below (s₁.setTop (mkF m 18 #[.val (.int p0), .val (.int p1), .val (.int p2), .val (.int p3), .val (.int p4), .val (.int 0), .unset, .unset, .unset, .unset, .unset, .unset, .unset, .unset, .unset, .unset, .unset, .unset, .unset, .unset, .unset] [(.int (p4 &&& (2 : Int32)))])) t → Steps p.tables e below (s₁.setTop (mkF m 0 #[.val (.int p0), .val (.int p1), .val (.int p2), .val (.int p3), .val (.int p4), .unset, .unset, .unset, .unset, .unset, .unset, .unset, .unset, .unset, .unset, .unset, .unset, .unset, .unset, .unset, .unset] [])) t := by
      intro t kt
      refine pre101 _ ?_
      show own_S p e below s₁ m 4 #[.val (.int p0), .val (.int p1), .val (.int p2), .val (.int p3), .val (.int p4), .unset, .unset, .unset, .unset, .unset, .unset, .unset, .unset, .unset, .unset, .unset, .unset, .unset, .unset, .unset, .unset] [(.int (p4 &&& (1 : Int32)))] _
      refine XS.ifYes X0.here hx rfl (pc0 := 4) (pc' := 11) rfl (hb hby at_4) rfl ((if0 _ _).trans (teq (hsame : (p4 &&& (1 : Int32)) = (0 : Int32))).1) (by decide) (by decide) ?_
      show own_S p e below s₁ m 11 #[.val (.int p0), .val (.int p1), .val (.int p2), .val (.int p3), .val (.int p4), .unset, .unset, .unset, .unset, .unset, .unset, .unset, .unset, .unset, .unset, .unset, .unset, .unset, .unset, .unset, .unset] [] _
      refine XS.iconst X0.here hx rfl (hb hby at_11) ?_
      show own_S p e below s₁ m 12 #[.val (.int p0), .val (.int p1), .val (.int p2), .val (.int p3), .val (.int p4), .unset, .unset, .unset, .unset, .unset, .unset, .unset, .unset, .unset, .unset, .unset, .unset, .unset, .unset, .unset, .unset] [(.int 0)] _
      refine XS.istore X0.here hx rfl (hb hby at_12) rfl (l' := #[.val (.int p0), .val (.int p1), .val (.int p2), .val (.int p3), .val (.int p4), .val (.int 0), .unset, .unset, .unset, .unset, .unset, .unset, .unset, .unset, .unset, .unset, .unset, .unset, .unset, .unset, .unset]) rfl ?_
      show own_S p e below s₁ m 14 #[.val (.int p0), .val (.int p1), .val (.int p2), .val (.int p3), .val (.int p4), .val (.int 0), .unset, .unset, .unset, .unset, .unset, .unset, .unset, .unset, .unset, .unset, .unset, .unset, .unset, .unset, .unset] [] _
      refine XS.iload X0.here hx rfl (hb hby at_14) rfl ?_
      show own_S p e below s₁ m 16 #[.val (.int p0), .val (.int p1), .val (.int p2), .val (.int p3), .val (.int p4), .val (.int 0), .unset, .unset, .unset, .unset, .unset, .unset, .unset, .unset, .unset, .unset, .unset, .unset, .unset, .unset, .unset] [(.int p4)] _
      refine XS.iconst X0.here hx rfl (hb hby at_16) ?_
      show own_S p e below s₁ m 17 #[.val (.int p0), .val (.int p1), .val (.int p2), .val (.int p3), .val (.int p4), .val (.int 0), .unset, .unset, .unset, .unset, .unset, .unset, .unset, .unset, .unset, .unset, .unset, .unset, .unset, .unset, .unset] [(.int 2), (.int p4)] _
      refine XS.iand X0.here hx rfl (hb hby at_17) rfl ?_
      exact kt
    by_cases hswap : (p4 &&& (2 : Int32)) = (0 : Int32)
    · skip
      obtain ⟨T103, h103, X103, e103, E103, A103, D103, -, st103⟩ := newO X0 hx hZ hown (own_w hw 0 rfl) (own_w hw 1 rfl) (own_w hw 2 rfl) e0 (g := (mkF m 76 #[.val (.int p0), .val (.int p1), .val (.int p2), .val (.int p3), .val (.int p4), .val (.int 0), .val (.int 0), .val (.double (FP.i2d p0)), .second, .val (.double (FP.i2d p1)), .second, .val (.double (FP.i2d p2)), .second, .val (.double (FP.i2d p3)), .second, .unset, .unset, .unset, .unset, .unset, .unset] [])) rfl (hb hby at_76) (by decide) (by decide)
      obtain ⟨b103, g103⟩ : ∃ z, z = h0.size := ⟨_, rfl⟩
      rw [← g103] at A103 D103 st103
      have g_b103 : n0 ≤ b103 := Nat.le_trans Z0 (Nat.le_of_eq g103.symm)
      have ZZ104 : n0 ≤ h103.size := Nat.le_trans Z0 E103.1
      have F_x_b103 : Fld Z h103 b103 "com/example/minisum/minisum/Point" "x" "D" (.double 0) := D103 (Or.inr (own_w hw 19 rfl)) (ty := .double) (by decide)
      have F_y_b103 : Fld Z h103 b103 "com/example/minisum/minisum/Point" "y" "D" (.double 0) := D103 (Or.inr (own_w hw 21 rfl)) (ty := .double) (by decide)
      obtain ⟨_, _, ⟨T105, L105, k105, n105⟩, -, X105, ⟨Lc105, hQ105, l105, y105, z105⟩, st105⟩ := X103.specialBack hx (y := (⟨"com/example/minisum/minisum/Point", "<init>", "(DD)V"⟩ : MethodName)) rfl hown (mvT hZ (own_w hw 3 rfl)) (mvT hZ (own_w hw 4 rfl)) (mvT hZ (own_w hw 5 rfl)) (by decide) (backOf (W := 1) (rmm1 l Z a0 hw [] b103 (FP.i2d p0) (FP.i2d p1) (.double 0) (.double 0) h103 n0 ZZ104 F_x_b103 F_y_b103 A103 g_b103 (i2d_fin _) (i2d_fin _)) hZ (own_w hw 5 rfl) (own_w hw 2 rfl) (by decide) (by decide)) (g := (mkF m 84 #[.val (.int p0), .val (.int p1), .val (.int p2), .val (.int p3), .val (.int p4), .val (.int 0), .val (.int 0), .val (.double (FP.i2d p0)), .second, .val (.double (FP.i2d p1)), .second, .val (.double (FP.i2d p2)), .second, .val (.double (FP.i2d p3)), .second, .unset, .unset, .unset, .unset, .unset, .unset] [(.double (FP.i2d p1)), (.double (FP.i2d p0)), (.ref b103), (.ref b103)])) rfl (by rw [hml]; rfl) (Steps.refl _) (a := b103) (argsL := [(.double (FP.i2d p0)), (.double (FP.i2d p1))]) (rest := [(.ref b103)]) (lenOf pd6 rfl) rfl (by show 2 * 0 + _ ≤ _; exact Nat.le_of_eq rfl) (hb hby at_84) (fun _ _ => ⟨rfl, e103, (by decide : 1 + 0 ≤ _), (by decide : 2 + 0 ≤ _)⟩)
      dsimp only [Pt.U, Pt.locs, Pt.cells, Pt.slots] at X105 l105 y105 z105 st105 hQ105
      subst l105 y105 z105
      obtain ⟨rfl, Nq105, P105_0, P105_1, P105_2, P105_3⟩ := hQ105
      have N105 := Fr.app N0 Nq105
      have ZZ106 : n0 ≤ T105.heap.size := Nat.le_trans ZZ104 P105_0.1
      obtain ⟨T107, h107, X107, e107, E107, A107, D107, -, st107⟩ := newO X105 hx hZ hown (own_w hw 0 rfl) (own_w hw 1 rfl) (own_w hw 2 rfl) rfl (g := (mkF m 89 #[.val (.int p0), .val (.int p1), .val (.int p2), .val (.int p3), .val (.int p4), .val (.int 0), .val (.int 0), .val (.double (FP.i2d p0)), .second, .val (.double (FP.i2d p1)), .second, .val (.double (FP.i2d p2)), .second, .val (.double (FP.i2d p3)), .second, .val (.ref b103), .unset, .unset, .unset, .unset, .unset] [])) rfl (hb hby at_89) (by decide) (by decide)
      obtain ⟨b107, g107⟩ : ∃ z, z = T105.heap.size := ⟨_, rfl⟩
      rw [← g107] at A107 D107 st107
      have g_b107 : n0 ≤ b107 := Nat.le_trans ZZ106 (Nat.le_of_eq g107.symm)
      have ZZ108 : n0 ≤ h107.size := Nat.le_trans ZZ106 E107.1
      have F_x_b107 : Fld Z h107 b107 "com/example/minisum/minisum/Point" "x" "D" (.double 0) := D107 (Or.inr (own_w hw 19 rfl)) (ty := .double) (by decide)
      have F_y_b107 : Fld Z h107 b107 "com/example/minisum/minisum/Point" "y" "D" (.double 0) := D107 (Or.inr (own_w hw 21 rfl)) (ty := .double) (by decide)
      obtain ⟨_, _, ⟨T109, L109, k109, n109⟩, -, X109, ⟨Lc109, hQ109, l109, y109, z109⟩, st109⟩ := X107.specialBack hx (y := (⟨"com/example/minisum/minisum/Point", "<init>", "(DD)V"⟩ : MethodName)) rfl hown (mvT hZ (own_w hw 3 rfl)) (mvT hZ (own_w hw 4 rfl)) (mvT hZ (own_w hw 5 rfl)) (by decide) (backOf (W := 1) (rmm1 l Z a0 hw [] b107 (FP.i2d p2) (FP.i2d p3) (.double 0) (.double 0) h107 n0 ZZ108 F_x_b107 F_y_b107 A107 g_b107 (i2d_fin _) (i2d_fin _)) hZ (own_w hw 5 rfl) (own_w hw 2 rfl) (by decide) (by decide)) (g := (mkF m 97 #[.val (.int p0), .val (.int p1), .val (.int p2), .val (.int p3), .val (.int p4), .val (.int 0), .val (.int 0), .val (.double (FP.i2d p0)), .second, .val (.double (FP.i2d p1)), .second, .val (.double (FP.i2d p2)), .second, .val (.double (FP.i2d p3)), .second, .val (.ref b103), .unset, .unset, .unset, .unset, .unset] [(.double (FP.i2d p3)), (.double (FP.i2d p2)), (.ref b107), (.ref b107)])) rfl (by rw [hml]; rfl) (Steps.refl _) (a := b107) (argsL := [(.double (FP.i2d p2)), (.double (FP.i2d p3))]) (rest := [(.ref b107)]) (lenOf pd6 rfl) rfl (by show 2 * 0 + _ ≤ _; exact Nat.le_of_eq rfl) (hb hby at_97) (fun _ _ => ⟨rfl, e107, (by decide : 2 + 0 ≤ _), (by decide : 4 + 0 ≤ _)⟩)
      dsimp only [Pt.U, Pt.locs, Pt.cells, Pt.slots] at X109 l109 y109 z109 st109 hQ109
      subst l109 y109 z109
      obtain ⟨rfl, Nq109, P109_0, P109_1, P109_2, P109_3⟩ := hQ109
      have N109 := Fr.app N105 Nq109
      have ZZ110 : n0 ≤ T109.heap.size := Nat.le_trans ZZ108 P109_0.1
      have Fc111 := ((P105_2.ext E107).keep P109_0 (ninS (Nat.ne_of_lt (Nat.lt_of_lt_of_le P105_1.lt (Nat.le_of_eq g107.symm))) nin0))
      have Fc112 := ((P105_3.ext E107).keep P109_0 (ninS (Nat.ne_of_lt (Nat.lt_of_lt_of_le P105_1.lt (Nat.le_of_eq g107.symm))) nin0))
      have Fc114 := ((P105_1.ext E107).keep P109_0)
      obtain ⟨cq113, kq113, q113a, q113b, q113c⟩ := isOf hZ rfl Fc114
      obtain ⟨_, _, ⟨T113, L113, k113, n113⟩, -, X113, ⟨Lc113, hQ113, l113, y113, z113⟩, st113⟩ := X109.virtualBack hx (y := (⟨"com/example/minisum/minisum/Point", "hashCode", "()I"⟩ : MethodName)) (z := (⟨"com/example/minisum/minisum/Point", "hashCode", "()I"⟩ : MethodName)) hown (mvT hZ (own_w hw 22 rfl)) (mvT hZ (own_w hw 23 rfl)) (notFace_of_selects (args := #[]) (mvT hZ (own_w hw 25 rfl))) (mvT hZ (own_w hw 25 rfl)) (mvT hZ (own_w hw 24 rfl)) (by decide) (backOf (W := 0) (rmm5 l Z a0 hw [] b103 (FP.i2d p0) (FP.i2d p1) T109.heap n0 ZZ110 Fc111 Fc112 ((i2d_fin _).noNaN) ((i2d_fin _).noNaN)) hZ (own_w hw 26 rfl) (own_w hw 2 rfl) (by decide) (by decide)) q113a q113c (g := (mkF m 104 #[.val (.int p0), .val (.int p1), .val (.int p2), .val (.int p3), .val (.int p4), .val (.int 0), .val (.int 0), .val (.double (FP.i2d p0)), .second, .val (.double (FP.i2d p1)), .second, .val (.double (FP.i2d p2)), .second, .val (.double (FP.i2d p3)), .second, .val (.ref b103), .val (.ref b107), .unset, .unset, .unset, .unset] [(.ref b103)])) rfl (by rw [hml]; rfl) (Steps.refl _) (argsL := []) (rest := []) (lenOf pd7 rfl) rfl (by show 2 * 0 + _ ≤ _; exact Nat.le_of_eq rfl) (hb hby at_104) (fun _ _ => ⟨rfl, rfl, (by decide : 2 + 0 ≤ _), (by decide : 4 + 0 ≤ _)⟩)
      dsimp only [Pt.U, Pt.locs, Pt.cells, Pt.slots] at X113 l113 y113 z113 st113 hQ113
      subst l113 y113 z113
      obtain ⟨rfl, Nq113, P113_0⟩ := hQ113
      have N113 := Fr.app N109 Nq113
      obtain ⟨cq115, kq115, q115a, q115b, q115c⟩ := isOf hZ P113_0 Fc114
      obtain ⟨_, _, ⟨T115, L115, k115, n115⟩, -, X115, ⟨Lc115, hQ115, l115, y115, z115⟩, st115⟩ := X113.virtualBack hx (y := (⟨"com/example/minisum/minisum/Point", "hashCode", "()I"⟩ : MethodName)) (z := (⟨"com/example/minisum/minisum/Point", "hashCode", "()I"⟩ : MethodName)) hown (mvT hZ (own_w hw 22 rfl)) (mvT hZ (own_w hw 23 rfl)) (notFace_of_selects (args := #[]) (mvT hZ (own_w hw 25 rfl))) (mvT hZ (own_w hw 25 rfl)) (mvT hZ (own_w hw 24 rfl)) (by decide) (backOf (W := 0) (rmm5 l Z a0 hw [] b103 (FP.i2d p0) (FP.i2d p1) T109.heap n0 ZZ110 Fc111 Fc112 ((i2d_fin _).noNaN) ((i2d_fin _).noNaN)) hZ (own_w hw 26 rfl) (own_w hw 2 rfl) (by decide) (by decide)) q115a q115c (g := (mkF m 111 #[.val (.int p0), .val (.int p1), .val (.int p2), .val (.int p3), .val (.int p4), .val (.int 0), .val (.int 0), .val (.double (FP.i2d p0)), .second, .val (.double (FP.i2d p1)), .second, .val (.double (FP.i2d p2)), .second, .val (.double (FP.i2d p3)), .second, .val (.ref b103), .val (.ref b107), .val (.int (own_hash (FP.i2d p0) (FP.i2d p1))), .unset, .unset, .unset] [(.ref b103)])) rfl (by rw [hml]; rfl) (Steps.refl _) (argsL := []) (rest := []) (lenOf pd7 rfl) rfl (by show 2 * 0 + _ ≤ _; exact Nat.le_of_eq rfl) (hb hby at_111) (fun _ _ => ⟨rfl, P113_0, (by decide : 2 + 0 ≤ _), (by decide : 4 + 0 ≤ _)⟩)
      dsimp only [Pt.U, Pt.locs, Pt.cells, Pt.slots] at X115 l115 y115 z115 st115 hQ115
      subst l115 y115 z115
      obtain ⟨rfl, Nq115, P115_0⟩ := hQ115
      have N115 := Fr.app N113 Nq115
      obtain ⟨cq116, kq116, q116a, q116b, q116c⟩ := isOf hZ P115_0 P109_1
      obtain ⟨_, _, ⟨T116, L116, k116, n116⟩, -, X116, ⟨Lc116, hQ116, l116, y116, z116⟩, st116⟩ := X115.virtualBack hx (y := (⟨"com/example/minisum/minisum/Point", "hashCode", "()I"⟩ : MethodName)) (z := (⟨"com/example/minisum/minisum/Point", "hashCode", "()I"⟩ : MethodName)) hown (mvT hZ (own_w hw 22 rfl)) (mvT hZ (own_w hw 23 rfl)) (notFace_of_selects (args := #[]) (mvT hZ (own_w hw 25 rfl))) (mvT hZ (own_w hw 25 rfl)) (mvT hZ (own_w hw 24 rfl)) (by decide) (backOf (W := 0) (rmm5 l Z a0 hw [] b107 (FP.i2d p2) (FP.i2d p3) T109.heap n0 ZZ110 P109_2 P109_3 ((i2d_fin _).noNaN) ((i2d_fin _).noNaN)) hZ (own_w hw 26 rfl) (own_w hw 2 rfl) (by decide) (by decide)) q116a q116c (g := (mkF m 118 #[.val (.int p0), .val (.int p1), .val (.int p2), .val (.int p3), .val (.int p4), .val (.int 0), .val (.int 0), .val (.double (FP.i2d p0)), .second, .val (.double (FP.i2d p1)), .second, .val (.double (FP.i2d p2)), .second, .val (.double (FP.i2d p3)), .second, .val (.ref b103), .val (.ref b107), .val (.int (own_hash (FP.i2d p0) (FP.i2d p1))), .val (.int (own_hash (FP.i2d p0) (FP.i2d p1))), .unset, .unset] [(.ref b107)])) rfl (by rw [hml]; rfl) (Steps.refl _) (argsL := []) (rest := []) (lenOf pd7 rfl) rfl (by show 2 * 0 + _ ≤ _; exact Nat.le_of_eq rfl) (hb hby at_118) (fun _ _ => ⟨rfl, P115_0, (by decide : 2 + 0 ≤ _), (by decide : 4 + 0 ≤ _)⟩)
      dsimp only [Pt.U, Pt.locs, Pt.cells, Pt.slots] at X116 l116 y116 z116 st116 hQ116
      subst l116 y116 z116
      obtain ⟨rfl, Nq116, P116_0⟩ := hQ116
      have N116 := Fr.app N115 Nq116
      obtain ⟨cq117, kq117, q117a, q117b, q117c⟩ := isOf hZ P116_0 Fc114
      obtain ⟨_, _, ⟨T117, L117, k117, n117⟩, -, X117, ⟨Lc117, hQ117, l117, y117, z117⟩, st117⟩ := X116.virtualBack hx (y := (⟨"com/example/minisum/minisum/Point", "equals", "(Ljava/lang/Object;)Z"⟩ : MethodName)) (z := (⟨"com/example/minisum/minisum/Point", "equals", "(Ljava/lang/Object;)Z"⟩ : MethodName)) hown (mvT hZ (own_w hw 43 rfl)) (mvT hZ (own_w hw 44 rfl)) (notFace_of_selects (args := #[]) (mvT hZ (own_w hw 46 rfl))) (mvT hZ (own_w hw 46 rfl)) (mvT hZ (own_w hw 45 rfl)) (by decide) (backOf (W := 0) (rmm10 l Z a0 hw [] b103 b107 (FP.i2d p0) (FP.i2d p1) (FP.i2d p2) (FP.i2d p3) T109.heap n0 ZZ110 Fc111 Fc112 P109_2 P109_3 P109_1 ((i2d_fin _).noNaN) ((i2d_fin _).noNaN) ((i2d_fin _).noNaN) ((i2d_fin _).noNaN)) hZ (own_w hw 47 rfl) (own_w hw 2 rfl) (by decide) (by decide)) q117a q117c (g := (mkF m 127 #[.val (.int p0), .val (.int p1), .val (.int p2), .val (.int p3), .val (.int p4), .val (.int 0), .val (.int 0), .val (.double (FP.i2d p0)), .second, .val (.double (FP.i2d p1)), .second, .val (.double (FP.i2d p2)), .second, .val (.double (FP.i2d p3)), .second, .val (.ref b103), .val (.ref b107), .val (.int (own_hash (FP.i2d p0) (FP.i2d p1))), .val (.int (own_hash (FP.i2d p0) (FP.i2d p1))), .val (.int (own_hash (FP.i2d p2) (FP.i2d p3))), .unset] [(.ref b107), (.ref b103)])) rfl (by rw [hml]; rfl) (Steps.refl _) (argsL := [(.ref b107)]) (rest := []) (lenOf pd8 rfl) rfl (by show 2 * 0 + _ ≤ _; exact Nat.le_of_eq rfl) (hb hby at_127) (fun _ _ => ⟨rfl, P116_0, (by decide : 2 + 0 ≤ _), (by decide : 4 + 0 ≤ _)⟩)
      dsimp only [Pt.U, Pt.locs, Pt.cells, Pt.slots] at X117 l117 y117 z117 st117 hQ117
      subst l117 y117 z117
      obtain ⟨rfl, Nq117, P117_0⟩ := hQ117
      have N117 := Fr.app N116 Nq117
      have pre118 : ∀ t, Steps p.tables e below (T117.setTop (mkF m 155 #[.val (.int p0), .val (.int p1), .val (.int p2), .val (.int p3), .val (.int p4), .val (.int 0), .val (.int 0), .val (.double (FP.i2d p0)), .second, .val (.double (FP.i2d p1)), .second, .val (.double (FP.i2d p2)), .second, .val (.double (FP.i2d p3)), .second, .val (.ref b103), .val (.ref b107), .val (.int (own_hash (FP.i2d p0) (FP.i2d p1))), .val (.int (own_hash (FP.i2d p0) (FP.i2d p1))), .val (.int (own_hash (FP.i2d p2) (FP.i2d p3))), .val (.int (own_eq (FP.i2d p0) (FP.i2d p1) (FP.i2d p2) (FP.i2d p3)))] [(.int (own_eq (FP.i2d p0) (FP.i2d p1) (FP.i2d p2) (FP.i2d p3)))])) t → Steps p.tables e below (s₁.setTop (mkF m 0 #[.val (.int p0), .val (.int p1), .val (.int p2), .val (.int p3), .val (.int p4), .unset, .unset, .unset, .unset, .unset, .unset, .unset, .unset, .unset, .unset, .unset, .unset, .unset, .unset, .unset, .unset] [])) t := by
        intro t kt
        refine pre102 _ ?_
        show own_S p e below s₁ m 18 #[.val (.int p0), .val (.int p1), .val (.int p2), .val (.int p3), .val (.int p4), .val (.int 0), .unset, .unset, .unset, .unset, .unset, .unset, .unset, .unset, .unset, .unset, .unset, .unset, .unset, .unset, .unset] [(.int (p4 &&& (2 : Int32)))] _
        refine XS.ifYes X0.here hx rfl (pc0 := 18) (pc' := 25) rfl (hb hby at_18) rfl ((if0 _ _).trans (teq (hswap : (p4 &&& (2 : Int32)) = (0 : Int32))).1) (by decide) (by decide) ?_
        show own_S p e below s₁ m 25 #[.val (.int p0), .val (.int p1), .val (.int p2), .val (.int p3), .val (.int p4), .val (.int 0), .unset, .unset, .unset, .unset, .unset, .unset, .unset, .unset, .unset, .unset, .unset, .unset, .unset, .unset, .unset] [] _
        refine XS.iconst X0.here hx rfl (hb hby at_25) ?_
        show own_S p e below s₁ m 26 #[.val (.int p0), .val (.int p1), .val (.int p2), .val (.int p3), .val (.int p4), .val (.int 0), .unset, .unset, .unset, .unset, .unset, .unset, .unset, .unset, .unset, .unset, .unset, .unset, .unset, .unset, .unset] [(.int 0)] _
        refine XS.istore X0.here hx rfl (hb hby at_26) rfl (l' := #[.val (.int p0), .val (.int p1), .val (.int p2), .val (.int p3), .val (.int p4), .val (.int 0), .val (.int 0), .unset, .unset, .unset, .unset, .unset, .unset, .unset, .unset, .unset, .unset, .unset, .unset, .unset, .unset]) rfl ?_
        show own_S p e below s₁ m 28 #[.val (.int p0), .val (.int p1), .val (.int p2), .val (.int p3), .val (.int p4), .val (.int 0), .val (.int 0), .unset, .unset, .unset, .unset, .unset, .unset, .unset, .unset, .unset, .unset, .unset, .unset, .unset, .unset] [] _
        refine XS.iloadN X0.here hx rfl (hb hby at_28) rfl ?_
        show own_S p e below s₁ m 29 #[.val (.int p0), .val (.int p1), .val (.int p2), .val (.int p3), .val (.int p4), .val (.int 0), .val (.int 0), .unset, .unset, .unset, .unset, .unset, .unset, .unset, .unset, .unset, .unset, .unset, .unset, .unset, .unset] [(.int p0)] _
        refine XS.i2dS X0.here hx rfl (v := (FP.i2d p0)) (hb hby at_29) rfl rfl ?_
        show own_S p e below s₁ m 30 #[.val (.int p0), .val (.int p1), .val (.int p2), .val (.int p3), .val (.int p4), .val (.int 0), .val (.int 0), .unset, .unset, .unset, .unset, .unset, .unset, .unset, .unset, .unset, .unset, .unset, .unset, .unset, .unset] [(.double (FP.i2d p0))] _
        refine XS.dstore X0.here hx rfl (hb hby at_30) rfl (l' := #[.val (.int p0), .val (.int p1), .val (.int p2), .val (.int p3), .val (.int p4), .val (.int 0), .val (.int 0), .val (.double (FP.i2d p0)), .second, .unset, .unset, .unset, .unset, .unset, .unset, .unset, .unset, .unset, .unset, .unset, .unset]) rfl ?_
        show own_S p e below s₁ m 32 #[.val (.int p0), .val (.int p1), .val (.int p2), .val (.int p3), .val (.int p4), .val (.int 0), .val (.int 0), .val (.double (FP.i2d p0)), .second, .unset, .unset, .unset, .unset, .unset, .unset, .unset, .unset, .unset, .unset, .unset, .unset] [] _
        refine XS.iloadN X0.here hx rfl (hb hby at_32) rfl ?_
        show own_S p e below s₁ m 33 #[.val (.int p0), .val (.int p1), .val (.int p2), .val (.int p3), .val (.int p4), .val (.int 0), .val (.int 0), .val (.double (FP.i2d p0)), .second, .unset, .unset, .unset, .unset, .unset, .unset, .unset, .unset, .unset, .unset, .unset, .unset] [(.int p1)] _
        refine XS.i2dS X0.here hx rfl (v := (FP.i2d p1)) (hb hby at_33) rfl rfl ?_
        show own_S p e below s₁ m 34 #[.val (.int p0), .val (.int p1), .val (.int p2), .val (.int p3), .val (.int p4), .val (.int 0), .val (.int 0), .val (.double (FP.i2d p0)), .second, .unset, .unset, .unset, .unset, .unset, .unset, .unset, .unset, .unset, .unset, .unset, .unset] [(.double (FP.i2d p1))] _
        refine XS.dstore X0.here hx rfl (hb hby at_34) rfl (l' := #[.val (.int p0), .val (.int p1), .val (.int p2), .val (.int p3), .val (.int p4), .val (.int 0), .val (.int 0), .val (.double (FP.i2d p0)), .second, .val (.double (FP.i2d p1)), .second, .unset, .unset, .unset, .unset, .unset, .unset, .unset, .unset, .unset, .unset]) rfl ?_
        show own_S p e below s₁ m 36 #[.val (.int p0), .val (.int p1), .val (.int p2), .val (.int p3), .val (.int p4), .val (.int 0), .val (.int 0), .val (.double (FP.i2d p0)), .second, .val (.double (FP.i2d p1)), .second, .unset, .unset, .unset, .unset, .unset, .unset, .unset, .unset, .unset, .unset] [] _
        refine XS.iload X0.here hx rfl (hb hby at_36) rfl ?_
        show own_S p e below s₁ m 38 #[.val (.int p0), .val (.int p1), .val (.int p2), .val (.int p3), .val (.int p4), .val (.int 0), .val (.int 0), .val (.double (FP.i2d p0)), .second, .val (.double (FP.i2d p1)), .second, .unset, .unset, .unset, .unset, .unset, .unset, .unset, .unset, .unset, .unset] [(.int 0)] _
        refine XS.ifYes X0.here hx rfl (pc0 := 38) (pc' := 52) rfl (hb hby at_38) rfl ((if0 _ _).trans (teq (by decide : (0 : Int32) = (0 : Int32))).1) (by decide) (by decide) ?_
        show own_S p e below s₁ m 52 #[.val (.int p0), .val (.int p1), .val (.int p2), .val (.int p3), .val (.int p4), .val (.int 0), .val (.int 0), .val (.double (FP.i2d p0)), .second, .val (.double (FP.i2d p1)), .second, .unset, .unset, .unset, .unset, .unset, .unset, .unset, .unset, .unset, .unset] [] _
        refine XS.iload X0.here hx rfl (hb hby at_52) rfl ?_
        show own_S p e below s₁ m 54 #[.val (.int p0), .val (.int p1), .val (.int p2), .val (.int p3), .val (.int p4), .val (.int 0), .val (.int 0), .val (.double (FP.i2d p0)), .second, .val (.double (FP.i2d p1)), .second, .unset, .unset, .unset, .unset, .unset, .unset, .unset, .unset, .unset, .unset] [(.int 0)] _
        refine XS.ifYes X0.here hx rfl (pc0 := 54) (pc' := 68) rfl (hb hby at_54) rfl ((if0 _ _).trans (teq (by decide : (0 : Int32) = (0 : Int32))).1) (by decide) (by decide) ?_
        show own_S p e below s₁ m 68 #[.val (.int p0), .val (.int p1), .val (.int p2), .val (.int p3), .val (.int p4), .val (.int 0), .val (.int 0), .val (.double (FP.i2d p0)), .second, .val (.double (FP.i2d p1)), .second, .unset, .unset, .unset, .unset, .unset, .unset, .unset, .unset, .unset, .unset] [] _
        refine XS.iloadN X0.here hx rfl (hb hby at_68) rfl ?_
        show own_S p e below s₁ m 69 #[.val (.int p0), .val (.int p1), .val (.int p2), .val (.int p3), .val (.int p4), .val (.int 0), .val (.int 0), .val (.double (FP.i2d p0)), .second, .val (.double (FP.i2d p1)), .second, .unset, .unset, .unset, .unset, .unset, .unset, .unset, .unset, .unset, .unset] [(.int p2)] _
        refine XS.i2dS X0.here hx rfl (v := (FP.i2d p2)) (hb hby at_69) rfl rfl ?_
        show own_S p e below s₁ m 70 #[.val (.int p0), .val (.int p1), .val (.int p2), .val (.int p3), .val (.int p4), .val (.int 0), .val (.int 0), .val (.double (FP.i2d p0)), .second, .val (.double (FP.i2d p1)), .second, .unset, .unset, .unset, .unset, .unset, .unset, .unset, .unset, .unset, .unset] [(.double (FP.i2d p2))] _
        refine XS.dstore X0.here hx rfl (hb hby at_70) rfl (l' := #[.val (.int p0), .val (.int p1), .val (.int p2), .val (.int p3), .val (.int p4), .val (.int 0), .val (.int 0), .val (.double (FP.i2d p0)), .second, .val (.double (FP.i2d p1)), .second, .val (.double (FP.i2d p2)), .second, .unset, .unset, .unset, .unset, .unset, .unset, .unset, .unset]) rfl ?_
        show own_S p e below s₁ m 72 #[.val (.int p0), .val (.int p1), .val (.int p2), .val (.int p3), .val (.int p4), .val (.int 0), .val (.int 0), .val (.double (FP.i2d p0)), .second, .val (.double (FP.i2d p1)), .second, .val (.double (FP.i2d p2)), .second, .unset, .unset, .unset, .unset, .unset, .unset, .unset, .unset] [] _
        refine XS.iloadN X0.here hx rfl (hb hby at_72) rfl ?_
        show own_S p e below s₁ m 73 #[.val (.int p0), .val (.int p1), .val (.int p2), .val (.int p3), .val (.int p4), .val (.int 0), .val (.int 0), .val (.double (FP.i2d p0)), .second, .val (.double (FP.i2d p1)), .second, .val (.double (FP.i2d p2)), .second, .unset, .unset, .unset, .unset, .unset, .unset, .unset, .unset] [(.int p3)] _
        refine XS.i2dS X0.here hx rfl (v := (FP.i2d p3)) (hb hby at_73) rfl rfl ?_
        show own_S p e below s₁ m 74 #[.val (.int p0), .val (.int p1), .val (.int p2), .val (.int p3), .val (.int p4), .val (.int 0), .val (.int 0), .val (.double (FP.i2d p0)), .second, .val (.double (FP.i2d p1)), .second, .val (.double (FP.i2d p2)), .second, .unset, .unset, .unset, .unset, .unset, .unset, .unset, .unset] [(.double (FP.i2d p3))] _
        refine XS.dstore X0.here hx rfl (hb hby at_74) rfl (l' := #[.val (.int p0), .val (.int p1), .val (.int p2), .val (.int p3), .val (.int p4), .val (.int 0), .val (.int 0), .val (.double (FP.i2d p0)), .second, .val (.double (FP.i2d p1)), .second, .val (.double (FP.i2d p2)), .second, .val (.double (FP.i2d p3)), .second, .unset, .unset, .unset, .unset, .unset, .unset]) rfl ?_
        show own_S p e below s₁ m 76 #[.val (.int p0), .val (.int p1), .val (.int p2), .val (.int p3), .val (.int p4), .val (.int 0), .val (.int 0), .val (.double (FP.i2d p0)), .second, .val (.double (FP.i2d p1)), .second, .val (.double (FP.i2d p2)), .second, .val (.double (FP.i2d p3)), .second, .unset, .unset, .unset, .unset, .unset, .unset] [] _
        refine st103 _ ?_
        show own_S p e below T103 m 79 #[.val (.int p0), .val (.int p1), .val (.int p2), .val (.int p3), .val (.int p4), .val (.int 0), .val (.int 0), .val (.double (FP.i2d p0)), .second, .val (.double (FP.i2d p1)), .second, .val (.double (FP.i2d p2)), .second, .val (.double (FP.i2d p3)), .second, .unset, .unset, .unset, .unset, .unset, .unset] [(.ref b103)] _
        refine XS.dup X103.here hx rfl (hb hby at_79) rfl rfl ?_
        show own_S p e below T103 m 80 #[.val (.int p0), .val (.int p1), .val (.int p2), .val (.int p3), .val (.int p4), .val (.int 0), .val (.int 0), .val (.double (FP.i2d p0)), .second, .val (.double (FP.i2d p1)), .second, .val (.double (FP.i2d p2)), .second, .val (.double (FP.i2d p3)), .second, .unset, .unset, .unset, .unset, .unset, .unset] [(.ref b103), (.ref b103)] _
        refine XS.dload X103.here hx rfl (hb hby at_80) rfl ?_
        show own_S p e below T103 m 82 #[.val (.int p0), .val (.int p1), .val (.int p2), .val (.int p3), .val (.int p4), .val (.int 0), .val (.int 0), .val (.double (FP.i2d p0)), .second, .val (.double (FP.i2d p1)), .second, .val (.double (FP.i2d p2)), .second, .val (.double (FP.i2d p3)), .second, .unset, .unset, .unset, .unset, .unset, .unset] [(.double (FP.i2d p0)), (.ref b103), (.ref b103)] _
        refine XS.dload X103.here hx rfl (hb hby at_82) rfl ?_
        show own_S p e below T103 m 84 #[.val (.int p0), .val (.int p1), .val (.int p2), .val (.int p3), .val (.int p4), .val (.int 0), .val (.int 0), .val (.double (FP.i2d p0)), .second, .val (.double (FP.i2d p1)), .second, .val (.double (FP.i2d p2)), .second, .val (.double (FP.i2d p3)), .second, .unset, .unset, .unset, .unset, .unset, .unset] [(.double (FP.i2d p1)), (.double (FP.i2d p0)), (.ref b103), (.ref b103)] _
        refine st105.trans ?_
        show own_S p e below T105 m 87 #[.val (.int p0), .val (.int p1), .val (.int p2), .val (.int p3), .val (.int p4), .val (.int 0), .val (.int 0), .val (.double (FP.i2d p0)), .second, .val (.double (FP.i2d p1)), .second, .val (.double (FP.i2d p2)), .second, .val (.double (FP.i2d p3)), .second, .unset, .unset, .unset, .unset, .unset, .unset] [(.ref b103)] _
        refine XS.astore X105.here hx rfl (hb hby at_87) rfl rfl (l' := #[.val (.int p0), .val (.int p1), .val (.int p2), .val (.int p3), .val (.int p4), .val (.int 0), .val (.int 0), .val (.double (FP.i2d p0)), .second, .val (.double (FP.i2d p1)), .second, .val (.double (FP.i2d p2)), .second, .val (.double (FP.i2d p3)), .second, .val (.ref b103), .unset, .unset, .unset, .unset, .unset]) rfl ?_
        show own_S p e below T105 m 89 #[.val (.int p0), .val (.int p1), .val (.int p2), .val (.int p3), .val (.int p4), .val (.int 0), .val (.int 0), .val (.double (FP.i2d p0)), .second, .val (.double (FP.i2d p1)), .second, .val (.double (FP.i2d p2)), .second, .val (.double (FP.i2d p3)), .second, .val (.ref b103), .unset, .unset, .unset, .unset, .unset] [] _
        refine st107 _ ?_
        show own_S p e below T107 m 92 #[.val (.int p0), .val (.int p1), .val (.int p2), .val (.int p3), .val (.int p4), .val (.int 0), .val (.int 0), .val (.double (FP.i2d p0)), .second, .val (.double (FP.i2d p1)), .second, .val (.double (FP.i2d p2)), .second, .val (.double (FP.i2d p3)), .second, .val (.ref b103), .unset, .unset, .unset, .unset, .unset] [(.ref b107)] _
        refine XS.dup X107.here hx rfl (hb hby at_92) rfl rfl ?_
        show own_S p e below T107 m 93 #[.val (.int p0), .val (.int p1), .val (.int p2), .val (.int p3), .val (.int p4), .val (.int 0), .val (.int 0), .val (.double (FP.i2d p0)), .second, .val (.double (FP.i2d p1)), .second, .val (.double (FP.i2d p2)), .second, .val (.double (FP.i2d p3)), .second, .val (.ref b103), .unset, .unset, .unset, .unset, .unset] [(.ref b107), (.ref b107)] _
        refine XS.dload X107.here hx rfl (hb hby at_93) rfl ?_
        show own_S p e below T107 m 95 #[.val (.int p0), .val (.int p1), .val (.int p2), .val (.int p3), .val (.int p4), .val (.int 0), .val (.int 0), .val (.double (FP.i2d p0)), .second, .val (.double (FP.i2d p1)), .second, .val (.double (FP.i2d p2)), .second, .val (.double (FP.i2d p3)), .second, .val (.ref b103), .unset, .unset, .unset, .unset, .unset] [(.double (FP.i2d p2)), (.ref b107), (.ref b107)] _
        refine XS.dload X107.here hx rfl (hb hby at_95) rfl ?_
        show own_S p e below T107 m 97 #[.val (.int p0), .val (.int p1), .val (.int p2), .val (.int p3), .val (.int p4), .val (.int 0), .val (.int 0), .val (.double (FP.i2d p0)), .second, .val (.double (FP.i2d p1)), .second, .val (.double (FP.i2d p2)), .second, .val (.double (FP.i2d p3)), .second, .val (.ref b103), .unset, .unset, .unset, .unset, .unset] [(.double (FP.i2d p3)), (.double (FP.i2d p2)), (.ref b107), (.ref b107)] _
        refine st109.trans ?_
        show own_S p e below T109 m 100 #[.val (.int p0), .val (.int p1), .val (.int p2), .val (.int p3), .val (.int p4), .val (.int 0), .val (.int 0), .val (.double (FP.i2d p0)), .second, .val (.double (FP.i2d p1)), .second, .val (.double (FP.i2d p2)), .second, .val (.double (FP.i2d p3)), .second, .val (.ref b103), .unset, .unset, .unset, .unset, .unset] [(.ref b107)] _
        refine XS.astore X109.here hx rfl (hb hby at_100) rfl rfl (l' := #[.val (.int p0), .val (.int p1), .val (.int p2), .val (.int p3), .val (.int p4), .val (.int 0), .val (.int 0), .val (.double (FP.i2d p0)), .second, .val (.double (FP.i2d p1)), .second, .val (.double (FP.i2d p2)), .second, .val (.double (FP.i2d p3)), .second, .val (.ref b103), .val (.ref b107), .unset, .unset, .unset, .unset]) rfl ?_
        show own_S p e below T109 m 102 #[.val (.int p0), .val (.int p1), .val (.int p2), .val (.int p3), .val (.int p4), .val (.int 0), .val (.int 0), .val (.double (FP.i2d p0)), .second, .val (.double (FP.i2d p1)), .second, .val (.double (FP.i2d p2)), .second, .val (.double (FP.i2d p3)), .second, .val (.ref b103), .val (.ref b107), .unset, .unset, .unset, .unset] [] _
        refine XS.aload X109.here hx rfl (hb hby at_102) rfl rfl ?_
        show own_S p e below T109 m 104 #[.val (.int p0), .val (.int p1), .val (.int p2), .val (.int p3), .val (.int p4), .val (.int 0), .val (.int 0), .val (.double (FP.i2d p0)), .second, .val (.double (FP.i2d p1)), .second, .val (.double (FP.i2d p2)), .second, .val (.double (FP.i2d p3)), .second, .val (.ref b103), .val (.ref b107), .unset, .unset, .unset, .unset] [(.ref b103)] _
        refine st113.trans ?_
        show own_S p e below T113 m 107 #[.val (.int p0), .val (.int p1), .val (.int p2), .val (.int p3), .val (.int p4), .val (.int 0), .val (.int 0), .val (.double (FP.i2d p0)), .second, .val (.double (FP.i2d p1)), .second, .val (.double (FP.i2d p2)), .second, .val (.double (FP.i2d p3)), .second, .val (.ref b103), .val (.ref b107), .unset, .unset, .unset, .unset] [(.int (own_hash (FP.i2d p0) (FP.i2d p1)))] _
        refine XS.istore X113.here hx rfl (hb hby at_107) rfl (l' := #[.val (.int p0), .val (.int p1), .val (.int p2), .val (.int p3), .val (.int p4), .val (.int 0), .val (.int 0), .val (.double (FP.i2d p0)), .second, .val (.double (FP.i2d p1)), .second, .val (.double (FP.i2d p2)), .second, .val (.double (FP.i2d p3)), .second, .val (.ref b103), .val (.ref b107), .val (.int (own_hash (FP.i2d p0) (FP.i2d p1))), .unset, .unset, .unset]) rfl ?_
        show own_S p e below T113 m 109 #[.val (.int p0), .val (.int p1), .val (.int p2), .val (.int p3), .val (.int p4), .val (.int 0), .val (.int 0), .val (.double (FP.i2d p0)), .second, .val (.double (FP.i2d p1)), .second, .val (.double (FP.i2d p2)), .second, .val (.double (FP.i2d p3)), .second, .val (.ref b103), .val (.ref b107), .val (.int (own_hash (FP.i2d p0) (FP.i2d p1))), .unset, .unset, .unset] [] _
        refine XS.aload X113.here hx rfl (hb hby at_109) rfl rfl ?_
        show own_S p e below T113 m 111 #[.val (.int p0), .val (.int p1), .val (.int p2), .val (.int p3), .val (.int p4), .val (.int 0), .val (.int 0), .val (.double (FP.i2d p0)), .second, .val (.double (FP.i2d p1)), .second, .val (.double (FP.i2d p2)), .second, .val (.double (FP.i2d p3)), .second, .val (.ref b103), .val (.ref b107), .val (.int (own_hash (FP.i2d p0) (FP.i2d p1))), .unset, .unset, .unset] [(.ref b103)] _
        refine st115.trans ?_
        show own_S p e below T115 m 114 #[.val (.int p0), .val (.int p1), .val (.int p2), .val (.int p3), .val (.int p4), .val (.int 0), .val (.int 0), .val (.double (FP.i2d p0)), .second, .val (.double (FP.i2d p1)), .second, .val (.double (FP.i2d p2)), .second, .val (.double (FP.i2d p3)), .second, .val (.ref b103), .val (.ref b107), .val (.int (own_hash (FP.i2d p0) (FP.i2d p1))), .unset, .unset, .unset] [(.int (own_hash (FP.i2d p0) (FP.i2d p1)))] _
        refine XS.istore X115.here hx rfl (hb hby at_114) rfl (l' := #[.val (.int p0), .val (.int p1), .val (.int p2), .val (.int p3), .val (.int p4), .val (.int 0), .val (.int 0), .val (.double (FP.i2d p0)), .second, .val (.double (FP.i2d p1)), .second, .val (.double (FP.i2d p2)), .second, .val (.double (FP.i2d p3)), .second, .val (.ref b103), .val (.ref b107), .val (.int (own_hash (FP.i2d p0) (FP.i2d p1))), .val (.int (own_hash (FP.i2d p0) (FP.i2d p1))), .unset, .unset]) rfl ?_
        show own_S p e below T115 m 116 #[.val (.int p0), .val (.int p1), .val (.int p2), .val (.int p3), .val (.int p4), .val (.int 0), .val (.int 0), .val (.double (FP.i2d p0)), .second, .val (.double (FP.i2d p1)), .second, .val (.double (FP.i2d p2)), .second, .val (.double (FP.i2d p3)), .second, .val (.ref b103), .val (.ref b107), .val (.int (own_hash (FP.i2d p0) (FP.i2d p1))), .val (.int (own_hash (FP.i2d p0) (FP.i2d p1))), .unset, .unset] [] _
        refine XS.aload X115.here hx rfl (hb hby at_116) rfl rfl ?_
        show own_S p e below T115 m 118 #[.val (.int p0), .val (.int p1), .val (.int p2), .val (.int p3), .val (.int p4), .val (.int 0), .val (.int 0), .val (.double (FP.i2d p0)), .second, .val (.double (FP.i2d p1)), .second, .val (.double (FP.i2d p2)), .second, .val (.double (FP.i2d p3)), .second, .val (.ref b103), .val (.ref b107), .val (.int (own_hash (FP.i2d p0) (FP.i2d p1))), .val (.int (own_hash (FP.i2d p0) (FP.i2d p1))), .unset, .unset] [(.ref b107)] _
        refine st116.trans ?_
        show own_S p e below T116 m 121 #[.val (.int p0), .val (.int p1), .val (.int p2), .val (.int p3), .val (.int p4), .val (.int 0), .val (.int 0), .val (.double (FP.i2d p0)), .second, .val (.double (FP.i2d p1)), .second, .val (.double (FP.i2d p2)), .second, .val (.double (FP.i2d p3)), .second, .val (.ref b103), .val (.ref b107), .val (.int (own_hash (FP.i2d p0) (FP.i2d p1))), .val (.int (own_hash (FP.i2d p0) (FP.i2d p1))), .unset, .unset] [(.int (own_hash (FP.i2d p2) (FP.i2d p3)))] _
        refine XS.istore X116.here hx rfl (hb hby at_121) rfl (l' := #[.val (.int p0), .val (.int p1), .val (.int p2), .val (.int p3), .val (.int p4), .val (.int 0), .val (.int 0), .val (.double (FP.i2d p0)), .second, .val (.double (FP.i2d p1)), .second, .val (.double (FP.i2d p2)), .second, .val (.double (FP.i2d p3)), .second, .val (.ref b103), .val (.ref b107), .val (.int (own_hash (FP.i2d p0) (FP.i2d p1))), .val (.int (own_hash (FP.i2d p0) (FP.i2d p1))), .val (.int (own_hash (FP.i2d p2) (FP.i2d p3))), .unset]) rfl ?_
        show own_S p e below T116 m 123 #[.val (.int p0), .val (.int p1), .val (.int p2), .val (.int p3), .val (.int p4), .val (.int 0), .val (.int 0), .val (.double (FP.i2d p0)), .second, .val (.double (FP.i2d p1)), .second, .val (.double (FP.i2d p2)), .second, .val (.double (FP.i2d p3)), .second, .val (.ref b103), .val (.ref b107), .val (.int (own_hash (FP.i2d p0) (FP.i2d p1))), .val (.int (own_hash (FP.i2d p0) (FP.i2d p1))), .val (.int (own_hash (FP.i2d p2) (FP.i2d p3))), .unset] [] _
        refine XS.aload X116.here hx rfl (hb hby at_123) rfl rfl ?_
        show own_S p e below T116 m 125 #[.val (.int p0), .val (.int p1), .val (.int p2), .val (.int p3), .val (.int p4), .val (.int 0), .val (.int 0), .val (.double (FP.i2d p0)), .second, .val (.double (FP.i2d p1)), .second, .val (.double (FP.i2d p2)), .second, .val (.double (FP.i2d p3)), .second, .val (.ref b103), .val (.ref b107), .val (.int (own_hash (FP.i2d p0) (FP.i2d p1))), .val (.int (own_hash (FP.i2d p0) (FP.i2d p1))), .val (.int (own_hash (FP.i2d p2) (FP.i2d p3))), .unset] [(.ref b103)] _
        refine XS.aload X116.here hx rfl (hb hby at_125) rfl rfl ?_
        show own_S p e below T116 m 127 #[.val (.int p0), .val (.int p1), .val (.int p2), .val (.int p3), .val (.int p4), .val (.int 0), .val (.int 0), .val (.double (FP.i2d p0)), .second, .val (.double (FP.i2d p1)), .second, .val (.double (FP.i2d p2)), .second, .val (.double (FP.i2d p3)), .second, .val (.ref b103), .val (.ref b107), .val (.int (own_hash (FP.i2d p0) (FP.i2d p1))), .val (.int (own_hash (FP.i2d p0) (FP.i2d p1))), .val (.int (own_hash (FP.i2d p2) (FP.i2d p3))), .unset] [(.ref b107), (.ref b103)] _
        refine st117.trans ?_
        show own_S p e below T117 m 130 #[.val (.int p0), .val (.int p1), .val (.int p2), .val (.int p3), .val (.int p4), .val (.int 0), .val (.int 0), .val (.double (FP.i2d p0)), .second, .val (.double (FP.i2d p1)), .second, .val (.double (FP.i2d p2)), .second, .val (.double (FP.i2d p3)), .second, .val (.ref b103), .val (.ref b107), .val (.int (own_hash (FP.i2d p0) (FP.i2d p1))), .val (.int (own_hash (FP.i2d p0) (FP.i2d p1))), .val (.int (own_hash (FP.i2d p2) (FP.i2d p3))), .unset] [(.int (own_eq (FP.i2d p0) (FP.i2d p1) (FP.i2d p2) (FP.i2d p3)))] _
        refine XS.istore X117.here hx rfl (hb hby at_130) rfl (l' := #[.val (.int p0), .val (.int p1), .val (.int p2), .val (.int p3), .val (.int p4), .val (.int 0), .val (.int 0), .val (.double (FP.i2d p0)), .second, .val (.double (FP.i2d p1)), .second, .val (.double (FP.i2d p2)), .second, .val (.double (FP.i2d p3)), .second, .val (.ref b103), .val (.ref b107), .val (.int (own_hash (FP.i2d p0) (FP.i2d p1))), .val (.int (own_hash (FP.i2d p0) (FP.i2d p1))), .val (.int (own_hash (FP.i2d p2) (FP.i2d p3))), .val (.int (own_eq (FP.i2d p0) (FP.i2d p1) (FP.i2d p2) (FP.i2d p3)))]) rfl ?_
        show own_S p e below T117 m 132 #[.val (.int p0), .val (.int p1), .val (.int p2), .val (.int p3), .val (.int p4), .val (.int 0), .val (.int 0), .val (.double (FP.i2d p0)), .second, .val (.double (FP.i2d p1)), .second, .val (.double (FP.i2d p2)), .second, .val (.double (FP.i2d p3)), .second, .val (.ref b103), .val (.ref b107), .val (.int (own_hash (FP.i2d p0) (FP.i2d p1))), .val (.int (own_hash (FP.i2d p0) (FP.i2d p1))), .val (.int (own_hash (FP.i2d p2) (FP.i2d p3))), .val (.int (own_eq (FP.i2d p0) (FP.i2d p1) (FP.i2d p2) (FP.i2d p3)))] [] _
        refine XS.iload X117.here hx rfl (hb hby at_132) rfl ?_
        show own_S p e below T117 m 134 #[.val (.int p0), .val (.int p1), .val (.int p2), .val (.int p3), .val (.int p4), .val (.int 0), .val (.int 0), .val (.double (FP.i2d p0)), .second, .val (.double (FP.i2d p1)), .second, .val (.double (FP.i2d p2)), .second, .val (.double (FP.i2d p3)), .second, .val (.ref b103), .val (.ref b107), .val (.int (own_hash (FP.i2d p0) (FP.i2d p1))), .val (.int (own_hash (FP.i2d p0) (FP.i2d p1))), .val (.int (own_hash (FP.i2d p2) (FP.i2d p3))), .val (.int (own_eq (FP.i2d p0) (FP.i2d p1) (FP.i2d p2) (FP.i2d p3)))] [(.int (own_hash (FP.i2d p0) (FP.i2d p1)))] _
        refine XS.iload X117.here hx rfl (hb hby at_134) rfl ?_
        show own_S p e below T117 m 136 #[.val (.int p0), .val (.int p1), .val (.int p2), .val (.int p3), .val (.int p4), .val (.int 0), .val (.int 0), .val (.double (FP.i2d p0)), .second, .val (.double (FP.i2d p1)), .second, .val (.double (FP.i2d p2)), .second, .val (.double (FP.i2d p3)), .second, .val (.ref b103), .val (.ref b107), .val (.int (own_hash (FP.i2d p0) (FP.i2d p1))), .val (.int (own_hash (FP.i2d p0) (FP.i2d p1))), .val (.int (own_hash (FP.i2d p2) (FP.i2d p3))), .val (.int (own_eq (FP.i2d p0) (FP.i2d p1) (FP.i2d p2) (FP.i2d p3)))] [(.int (own_hash (FP.i2d p0) (FP.i2d p1))), (.int (own_hash (FP.i2d p0) (FP.i2d p1)))] _
        refine XS.icmpYes X117.here hx rfl (pc0 := 136) (pc' := 141) rfl (hb hby at_136) rfl (teq (rfl : (own_hash (FP.i2d p0) (FP.i2d p1)) = (own_hash (FP.i2d p0) (FP.i2d p1)))).1 (by decide) (by decide) ?_
        show own_S p e below T117 m 141 #[.val (.int p0), .val (.int p1), .val (.int p2), .val (.int p3), .val (.int p4), .val (.int 0), .val (.int 0), .val (.double (FP.i2d p0)), .second, .val (.double (FP.i2d p1)), .second, .val (.double (FP.i2d p2)), .second, .val (.double (FP.i2d p3)), .second, .val (.ref b103), .val (.ref b107), .val (.int (own_hash (FP.i2d p0) (FP.i2d p1))), .val (.int (own_hash (FP.i2d p0) (FP.i2d p1))), .val (.int (own_hash (FP.i2d p2) (FP.i2d p3))), .val (.int (own_eq (FP.i2d p0) (FP.i2d p1) (FP.i2d p2) (FP.i2d p3)))] [] _
        refine XS.iload X117.here hx rfl (hb hby at_141) rfl ?_
        show own_S p e below T117 m 143 #[.val (.int p0), .val (.int p1), .val (.int p2), .val (.int p3), .val (.int p4), .val (.int 0), .val (.int 0), .val (.double (FP.i2d p0)), .second, .val (.double (FP.i2d p1)), .second, .val (.double (FP.i2d p2)), .second, .val (.double (FP.i2d p3)), .second, .val (.ref b103), .val (.ref b107), .val (.int (own_hash (FP.i2d p0) (FP.i2d p1))), .val (.int (own_hash (FP.i2d p0) (FP.i2d p1))), .val (.int (own_hash (FP.i2d p2) (FP.i2d p3))), .val (.int (own_eq (FP.i2d p0) (FP.i2d p1) (FP.i2d p2) (FP.i2d p3)))] [(.int 0)] _
        refine XS.ifYes X117.here hx rfl (pc0 := 143) (pc' := 153) rfl (hb hby at_143) rfl ((if0 _ _).trans (teq (by decide : (0 : Int32) = (0 : Int32))).1) (by decide) (by decide) ?_
        show own_S p e below T117 m 153 #[.val (.int p0), .val (.int p1), .val (.int p2), .val (.int p3), .val (.int p4), .val (.int 0), .val (.int 0), .val (.double (FP.i2d p0)), .second, .val (.double (FP.i2d p1)), .second, .val (.double (FP.i2d p2)), .second, .val (.double (FP.i2d p3)), .second, .val (.ref b103), .val (.ref b107), .val (.int (own_hash (FP.i2d p0) (FP.i2d p1))), .val (.int (own_hash (FP.i2d p0) (FP.i2d p1))), .val (.int (own_hash (FP.i2d p2) (FP.i2d p3))), .val (.int (own_eq (FP.i2d p0) (FP.i2d p1) (FP.i2d p2) (FP.i2d p3)))] [] _
        refine XS.iload X117.here hx rfl (hb hby at_153) rfl ?_
        exact kt
      by_cases heq : (own_eq (FP.i2d p0) (FP.i2d p1) (FP.i2d p2) (FP.i2d p3)) = (0 : Int32)
      · skip
        obtain ⟨fs, hr, hrun, hended, hW, hsame⟩ := X117.leave (v := some (.int 1)) (fun h => by rw [Bd.returns] at h; cases h)
        refine ⟨_, _, pre0 _ (pre118 _ ?_), hrun, hended, _, _, rfl, ?_, ⟨_, rfl⟩, hW, hsame.mono (by decide) (by decide)⟩
        · show own_S p e below T117 m 155 #[.val (.int p0), .val (.int p1), .val (.int p2), .val (.int p3), .val (.int p4), .val (.int 0), .val (.int 0), .val (.double (FP.i2d p0)), .second, .val (.double (FP.i2d p1)), .second, .val (.double (FP.i2d p2)), .second, .val (.double (FP.i2d p3)), .second, .val (.ref b103), .val (.ref b107), .val (.int (own_hash (FP.i2d p0) (FP.i2d p1))), .val (.int (own_hash (FP.i2d p0) (FP.i2d p1))), .val (.int (own_hash (FP.i2d p2) (FP.i2d p3))), .val (.int (own_eq (FP.i2d p0) (FP.i2d p1) (FP.i2d p2) (FP.i2d p3)))] [(.int (own_eq (FP.i2d p0) (FP.i2d p1) (FP.i2d p2) (FP.i2d p3)))] _
          refine XS.ifYes X117.here hx rfl (pc0 := 155) (pc' := 165) rfl (hb hby at_155) rfl ((if0 _ _).trans (teq (heq : (own_eq (FP.i2d p0) (FP.i2d p1) (FP.i2d p2) (FP.i2d p3)) = (0 : Int32))).1) (by decide) (by decide) ?_
          show own_S p e below T117 m 165 #[.val (.int p0), .val (.int p1), .val (.int p2), .val (.int p3), .val (.int p4), .val (.int 0), .val (.int 0), .val (.double (FP.i2d p0)), .second, .val (.double (FP.i2d p1)), .second, .val (.double (FP.i2d p2)), .second, .val (.double (FP.i2d p3)), .second, .val (.ref b103), .val (.ref b107), .val (.int (own_hash (FP.i2d p0) (FP.i2d p1))), .val (.int (own_hash (FP.i2d p0) (FP.i2d p1))), .val (.int (own_hash (FP.i2d p2) (FP.i2d p3))), .val (.int (own_eq (FP.i2d p0) (FP.i2d p1) (FP.i2d p2) (FP.i2d p3)))] [] _
          refine XS.iconst X117.here hx rfl (hb hby at_165) ?_
          show own_S p e below T117 m 166 #[.val (.int p0), .val (.int p1), .val (.int p2), .val (.int p3), .val (.int p4), .val (.int 0), .val (.int 0), .val (.double (FP.i2d p0)), .second, .val (.double (FP.i2d p1)), .second, .val (.double (FP.i2d p2)), .second, .val (.double (FP.i2d p3)), .second, .val (.ref b103), .val (.ref b107), .val (.int (own_hash (FP.i2d p0) (FP.i2d p1))), .val (.int (own_hash (FP.i2d p0) (FP.i2d p1))), .val (.int (own_hash (FP.i2d p2) (FP.i2d p3))), .val (.int (own_eq (FP.i2d p0) (FP.i2d p1) (FP.i2d p2) (FP.i2d p3)))] [(.int 1)] _
          refine XS.goto X117.here hx rfl (pc0 := 166) (pc' := 170) rfl (hb hby at_166) (by decide) (by decide) ?_
          show own_S p e below T117 m 170 #[.val (.int p0), .val (.int p1), .val (.int p2), .val (.int p3), .val (.int p4), .val (.int 0), .val (.int 0), .val (.double (FP.i2d p0)), .second, .val (.double (FP.i2d p1)), .second, .val (.double (FP.i2d p2)), .second, .val (.double (FP.i2d p3)), .second, .val (.ref b103), .val (.ref b107), .val (.int (own_hash (FP.i2d p0) (FP.i2d p1))), .val (.int (own_hash (FP.i2d p0) (FP.i2d p1))), .val (.int (own_hash (FP.i2d p2) (FP.i2d p3))), .val (.int (own_eq (FP.i2d p0) (FP.i2d p1) (FP.i2d p2) (FP.i2d p3)))] [(.int 1)] _
          exact retN X117 hx (t := .boolean) Bd.returns (by simp) (hb hby at_170) hr
        · show Qm0 Z p0 p1 p2 p3 p4 h0 n0 _ T117.heap _
          rw [P117_0]
          exact ⟨rfl, N117⟩
      · skip
        obtain ⟨fs, hr, hrun, hended, hW, hsame⟩ := X117.leave (v := some (.int 1)) (fun h => by rw [Bd.returns] at h; cases h)
        refine ⟨_, _, pre0 _ (pre118 _ ?_), hrun, hended, _, _, rfl, ?_, ⟨_, rfl⟩, hW, hsame.mono (by decide) (by decide)⟩
        · show own_S p e below T117 m 155 #[.val (.int p0), .val (.int p1), .val (.int p2), .val (.int p3), .val (.int p4), .val (.int 0), .val (.int 0), .val (.double (FP.i2d p0)), .second, .val (.double (FP.i2d p1)), .second, .val (.double (FP.i2d p2)), .second, .val (.double (FP.i2d p3)), .second, .val (.ref b103), .val (.ref b107), .val (.int (own_hash (FP.i2d p0) (FP.i2d p1))), .val (.int (own_hash (FP.i2d p0) (FP.i2d p1))), .val (.int (own_hash (FP.i2d p2) (FP.i2d p3))), .val (.int (own_eq (FP.i2d p0) (FP.i2d p1) (FP.i2d p2) (FP.i2d p3)))] [(.int (own_eq (FP.i2d p0) (FP.i2d p1) (FP.i2d p2) (FP.i2d p3)))] _
          refine XS.ifNo X117.here hx rfl (hb hby at_155) rfl ((if0 _ _).trans (feq (heq : ¬ ((own_eq (FP.i2d p0) (FP.i2d p1) (FP.i2d p2) (FP.i2d p3)) = (0 : Int32)))).1) ?_
          show own_S p e below T117 m 158 #[.val (.int p0), .val (.int p1), .val (.int p2), .val (.int p3), .val (.int p4), .val (.int 0), .val (.int 0), .val (.double (FP.i2d p0)), .second, .val (.double (FP.i2d p1)), .second, .val (.double (FP.i2d p2)), .second, .val (.double (FP.i2d p3)), .second, .val (.ref b103), .val (.ref b107), .val (.int (own_hash (FP.i2d p0) (FP.i2d p1))), .val (.int (own_hash (FP.i2d p0) (FP.i2d p1))), .val (.int (own_hash (FP.i2d p2) (FP.i2d p3))), .val (.int (own_eq (FP.i2d p0) (FP.i2d p1) (FP.i2d p2) (FP.i2d p3)))] [] _
          refine XS.iload X117.here hx rfl (hb hby at_158) rfl ?_
          show own_S p e below T117 m 160 #[.val (.int p0), .val (.int p1), .val (.int p2), .val (.int p3), .val (.int p4), .val (.int 0), .val (.int 0), .val (.double (FP.i2d p0)), .second, .val (.double (FP.i2d p1)), .second, .val (.double (FP.i2d p2)), .second, .val (.double (FP.i2d p3)), .second, .val (.ref b103), .val (.ref b107), .val (.int (own_hash (FP.i2d p0) (FP.i2d p1))), .val (.int (own_hash (FP.i2d p0) (FP.i2d p1))), .val (.int (own_hash (FP.i2d p2) (FP.i2d p3))), .val (.int (own_eq (FP.i2d p0) (FP.i2d p1) (FP.i2d p2) (FP.i2d p3)))] [(.int (own_hash (FP.i2d p0) (FP.i2d p1)))] _
          refine XS.iload X117.here hx rfl (hb hby at_160) rfl ?_
          show own_S p e below T117 m 162 #[.val (.int p0), .val (.int p1), .val (.int p2), .val (.int p3), .val (.int p4), .val (.int 0), .val (.int 0), .val (.double (FP.i2d p0)), .second, .val (.double (FP.i2d p1)), .second, .val (.double (FP.i2d p2)), .second, .val (.double (FP.i2d p3)), .second, .val (.ref b103), .val (.ref b107), .val (.int (own_hash (FP.i2d p0) (FP.i2d p1))), .val (.int (own_hash (FP.i2d p0) (FP.i2d p1))), .val (.int (own_hash (FP.i2d p2) (FP.i2d p3))), .val (.int (own_eq (FP.i2d p0) (FP.i2d p1) (FP.i2d p2) (FP.i2d p3)))] [(.int (own_hash (FP.i2d p2) (FP.i2d p3))), (.int (own_hash (FP.i2d p0) (FP.i2d p1)))] _
          refine XS.icmpNo X117.here hx rfl (hb hby at_162) rfl (teq (by obtain ⟨q1, q2⟩ := own_eq1 heq; rw [q1, q2] : (own_hash (FP.i2d p0) (FP.i2d p1)) = (own_hash (FP.i2d p2) (FP.i2d p3)))).2 ?_
          show own_S p e below T117 m 165 #[.val (.int p0), .val (.int p1), .val (.int p2), .val (.int p3), .val (.int p4), .val (.int 0), .val (.int 0), .val (.double (FP.i2d p0)), .second, .val (.double (FP.i2d p1)), .second, .val (.double (FP.i2d p2)), .second, .val (.double (FP.i2d p3)), .second, .val (.ref b103), .val (.ref b107), .val (.int (own_hash (FP.i2d p0) (FP.i2d p1))), .val (.int (own_hash (FP.i2d p0) (FP.i2d p1))), .val (.int (own_hash (FP.i2d p2) (FP.i2d p3))), .val (.int (own_eq (FP.i2d p0) (FP.i2d p1) (FP.i2d p2) (FP.i2d p3)))] [] _
          refine XS.iconst X117.here hx rfl (hb hby at_165) ?_
          show own_S p e below T117 m 166 #[.val (.int p0), .val (.int p1), .val (.int p2), .val (.int p3), .val (.int p4), .val (.int 0), .val (.int 0), .val (.double (FP.i2d p0)), .second, .val (.double (FP.i2d p1)), .second, .val (.double (FP.i2d p2)), .second, .val (.double (FP.i2d p3)), .second, .val (.ref b103), .val (.ref b107), .val (.int (own_hash (FP.i2d p0) (FP.i2d p1))), .val (.int (own_hash (FP.i2d p0) (FP.i2d p1))), .val (.int (own_hash (FP.i2d p2) (FP.i2d p3))), .val (.int (own_eq (FP.i2d p0) (FP.i2d p1) (FP.i2d p2) (FP.i2d p3)))] [(.int 1)] _
          refine XS.goto X117.here hx rfl (pc0 := 166) (pc' := 170) rfl (hb hby at_166) (by decide) (by decide) ?_
          show own_S p e below T117 m 170 #[.val (.int p0), .val (.int p1), .val (.int p2), .val (.int p3), .val (.int p4), .val (.int 0), .val (.int 0), .val (.double (FP.i2d p0)), .second, .val (.double (FP.i2d p1)), .second, .val (.double (FP.i2d p2)), .second, .val (.double (FP.i2d p3)), .second, .val (.ref b103), .val (.ref b107), .val (.int (own_hash (FP.i2d p0) (FP.i2d p1))), .val (.int (own_hash (FP.i2d p0) (FP.i2d p1))), .val (.int (own_hash (FP.i2d p2) (FP.i2d p3))), .val (.int (own_eq (FP.i2d p0) (FP.i2d p1) (FP.i2d p2) (FP.i2d p3)))] [(.int 1)] _
          exact retN X117 hx (t := .boolean) Bd.returns (by simp) (hb hby at_170) hr
        · show Qm0 Z p0 p1 p2 p3 p4 h0 n0 _ T117.heap _
          rw [P117_0]
          exact ⟨rfl, N117⟩
    · skip
      obtain ⟨T119, h119, X119, e119, E119, A119, D119, -, st119⟩ := newO X0 hx hZ hown (own_w hw 0 rfl) (own_w hw 1 rfl) (own_w hw 2 rfl) e0 (g := (mkF m 76 #[.val (.int p0), .val (.int p1), .val (.int p2), .val (.int p3), .val (.int p4), .val (.int 0), .val (.int 1), .val (.double (FP.i2d p0)), .second, .val (.double (FP.i2d p1)), .second, .val (.double (FP.i2d p1)), .second, .val (.double (FP.i2d p0)), .second, .unset, .unset, .unset, .unset, .unset, .unset] [])) rfl (hb hby at_76) (by decide) (by decide)
      obtain ⟨b119, g119⟩ : ∃ z, z = h0.size := ⟨_, rfl⟩
      rw [← g119] at A119 D119 st119
      have g_b119 : n0 ≤ b119 := Nat.le_trans Z0 (Nat.le_of_eq g119.symm)
      have ZZ120 : n0 ≤ h119.size := Nat.le_trans Z0 E119.1
      have F_x_b119 : Fld Z h119 b119 "com/example/minisum/minisum/Point" "x" "D" (.double 0) := D119 (Or.inr (own_w hw 19 rfl)) (ty := .double) (by decide)
      have F_y_b119 : Fld Z h119 b119 "com/example/minisum/minisum/Point" "y" "D" (.double 0) := D119 (Or.inr (own_w hw 21 rfl)) (ty := .double) (by decide)
      obtain ⟨_, _, ⟨T121, L121, k121, n121⟩, -, X121, ⟨Lc121, hQ121, l121, y121, z121⟩, st121⟩ := X119.specialBack hx (y := (⟨"com/example/minisum/minisum/Point", "<init>", "(DD)V"⟩ : MethodName)) rfl hown (mvT hZ (own_w hw 3 rfl)) (mvT hZ (own_w hw 4 rfl)) (mvT hZ (own_w hw 5 rfl)) (by decide) (backOf (W := 1) (rmm1 l Z a0 hw [] b119 (FP.i2d p0) (FP.i2d p1) (.double 0) (.double 0) h119 n0 ZZ120 F_x_b119 F_y_b119 A119 g_b119 (i2d_fin _) (i2d_fin _)) hZ (own_w hw 5 rfl) (own_w hw 2 rfl) (by decide) (by decide)) (g := (mkF m 84 #[.val (.int p0), .val (.int p1), .val (.int p2), .val (.int p3), .val (.int p4), .val (.int 0), .val (.int 1), .val (.double (FP.i2d p0)), .second, .val (.double (FP.i2d p1)), .second, .val (.double (FP.i2d p1)), .second, .val (.double (FP.i2d p0)), .second, .unset, .unset, .unset, .unset, .unset, .unset] [(.double (FP.i2d p1)), (.double (FP.i2d p0)), (.ref b119), (.ref b119)])) rfl (by rw [hml]; rfl) (Steps.refl _) (a := b119) (argsL := [(.double (FP.i2d p0)), (.double (FP.i2d p1))]) (rest := [(.ref b119)]) (lenOf pd6 rfl) rfl (by show 2 * 0 + _ ≤ _; exact Nat.le_of_eq rfl) (hb hby at_84) (fun _ _ => ⟨rfl, e119, (by decide : 1 + 0 ≤ _), (by decide : 2 + 0 ≤ _)⟩)
      dsimp only [Pt.U, Pt.locs, Pt.cells, Pt.slots] at X121 l121 y121 z121 st121 hQ121
      subst l121 y121 z121
      obtain ⟨rfl, Nq121, P121_0, P121_1, P121_2, P121_3⟩ := hQ121
      have N121 := Fr.app N0 Nq121
      have ZZ122 : n0 ≤ T121.heap.size := Nat.le_trans ZZ120 P121_0.1
      obtain ⟨T123, h123, X123, e123, E123, A123, D123, -, st123⟩ := newO X121 hx hZ hown (own_w hw 0 rfl) (own_w hw 1 rfl) (own_w hw 2 rfl) rfl (g := (mkF m 89 #[.val (.int p0), .val (.int p1), .val (.int p2), .val (.int p3), .val (.int p4), .val (.int 0), .val (.int 1), .val (.double (FP.i2d p0)), .second, .val (.double (FP.i2d p1)), .second, .val (.double (FP.i2d p1)), .second, .val (.double (FP.i2d p0)), .second, .val (.ref b119), .unset, .unset, .unset, .unset, .unset] [])) rfl (hb hby at_89) (by decide) (by decide)
      obtain ⟨b123, g123⟩ : ∃ z, z = T121.heap.size := ⟨_, rfl⟩
      rw [← g123] at A123 D123 st123
      have g_b123 : n0 ≤ b123 := Nat.le_trans ZZ122 (Nat.le_of_eq g123.symm)
      have ZZ124 : n0 ≤ h123.size := Nat.le_trans ZZ122 E123.1
      have F_x_b123 : Fld Z h123 b123 "com/example/minisum/minisum/Point" "x" "D" (.double 0) := D123 (Or.inr (own_w hw 19 rfl)) (ty := .double) (by decide)
      have F_y_b123 : Fld Z h123 b123 "com/example/minisum/minisum/Point" "y" "D" (.double 0) := D123 (Or.inr (own_w hw 21 rfl)) (ty := .double) (by decide)
      obtain ⟨_, _, ⟨T125, L125, k125, n125⟩, -, X125, ⟨Lc125, hQ125, l125, y125, z125⟩, st125⟩ := X123.specialBack hx (y := (⟨"com/example/minisum/minisum/Point", "<init>", "(DD)V"⟩ : MethodName)) rfl hown (mvT hZ (own_w hw 3 rfl)) (mvT hZ (own_w hw 4 rfl)) (mvT hZ (own_w hw 5 rfl)) (by decide) (backOf (W := 1) (rmm1 l Z a0 hw [] b123 (FP.i2d p1) (FP.i2d p0) (.double 0) (.double 0) h123 n0 ZZ124 F_x_b123 F_y_b123 A123 g_b123 (i2d_fin _) (i2d_fin _)) hZ (own_w hw 5 rfl) (own_w hw 2 rfl) (by decide) (by decide)) (g := (mkF m 97 #[.val (.int p0), .val (.int p1), .val (.int p2), .val (.int p3), .val (.int p4), .val (.int 0), .val (.int 1), .val (.double (FP.i2d p0)), .second, .val (.double (FP.i2d p1)), .second, .val (.double (FP.i2d p1)), .second, .val (.double (FP.i2d p0)), .second, .val (.ref b119), .unset, .unset, .unset, .unset, .unset] [(.double (FP.i2d p0)), (.double (FP.i2d p1)), (.ref b123), (.ref b123)])) rfl (by rw [hml]; rfl) (Steps.refl _) (a := b123) (argsL := [(.double (FP.i2d p1)), (.double (FP.i2d p0))]) (rest := [(.ref b123)]) (lenOf pd6 rfl) rfl (by show 2 * 0 + _ ≤ _; exact Nat.le_of_eq rfl) (hb hby at_97) (fun _ _ => ⟨rfl, e123, (by decide : 2 + 0 ≤ _), (by decide : 4 + 0 ≤ _)⟩)
      dsimp only [Pt.U, Pt.locs, Pt.cells, Pt.slots] at X125 l125 y125 z125 st125 hQ125
      subst l125 y125 z125
      obtain ⟨rfl, Nq125, P125_0, P125_1, P125_2, P125_3⟩ := hQ125
      have N125 := Fr.app N121 Nq125
      have ZZ126 : n0 ≤ T125.heap.size := Nat.le_trans ZZ124 P125_0.1
      have Fc127 := ((P121_2.ext E123).keep P125_0 (ninS (Nat.ne_of_lt (Nat.lt_of_lt_of_le P121_1.lt (Nat.le_of_eq g123.symm))) nin0))
      have Fc128 := ((P121_3.ext E123).keep P125_0 (ninS (Nat.ne_of_lt (Nat.lt_of_lt_of_le P121_1.lt (Nat.le_of_eq g123.symm))) nin0))
      have Fc130 := ((P121_1.ext E123).keep P125_0)
      obtain ⟨cq129, kq129, q129a, q129b, q129c⟩ := isOf hZ rfl Fc130
      obtain ⟨_, _, ⟨T129, L129, k129, n129⟩, -, X129, ⟨Lc129, hQ129, l129, y129, z129⟩, st129⟩ := X125.virtualBack hx (y := (⟨"com/example/minisum/minisum/Point", "hashCode", "()I"⟩ : MethodName)) (z := (⟨"com/example/minisum/minisum/Point", "hashCode", "()I"⟩ : MethodName)) hown (mvT hZ (own_w hw 22 rfl)) (mvT hZ (own_w hw 23 rfl)) (notFace_of_selects (args := #[]) (mvT hZ (own_w hw 25 rfl))) (mvT hZ (own_w hw 25 rfl)) (mvT hZ (own_w hw 24 rfl)) (by decide) (backOf (W := 0) (rmm5 l Z a0 hw [] b119 (FP.i2d p0) (FP.i2d p1) T125.heap n0 ZZ126 Fc127 Fc128 ((i2d_fin _).noNaN) ((i2d_fin _).noNaN)) hZ (own_w hw 26 rfl) (own_w hw 2 rfl) (by decide) (by decide)) q129a q129c (g := (mkF m 104 #[.val (.int p0), .val (.int p1), .val (.int p2), .val (.int p3), .val (.int p4), .val (.int 0), .val (.int 1), .val (.double (FP.i2d p0)), .second, .val (.double (FP.i2d p1)), .second, .val (.double (FP.i2d p1)), .second, .val (.double (FP.i2d p0)), .second, .val (.ref b119), .val (.ref b123), .unset, .unset, .unset, .unset] [(.ref b119)])) rfl (by rw [hml]; rfl) (Steps.refl _) (argsL := []) (rest := []) (lenOf pd7 rfl) rfl (by show 2 * 0 + _ ≤ _; exact Nat.le_of_eq rfl) (hb hby at_104) (fun _ _ => ⟨rfl, rfl, (by decide : 2 + 0 ≤ _), (by decide : 4 + 0 ≤ _)⟩)
      dsimp only [Pt.U, Pt.locs, Pt.cells, Pt.slots] at X129 l129 y129 z129 st129 hQ129
      subst l129 y129 z129
      obtain ⟨rfl, Nq129, P129_0⟩ := hQ129
      have N129 := Fr.app N125 Nq129
      obtain ⟨cq131, kq131, q131a, q131b, q131c⟩ := isOf hZ P129_0 Fc130
      obtain ⟨_, _, ⟨T131, L131, k131, n131⟩, -, X131, ⟨Lc131, hQ131, l131, y131, z131⟩, st131⟩ := X129.virtualBack hx (y := (⟨"com/example/minisum/minisum/Point", "hashCode", "()I"⟩ : MethodName)) (z := (⟨"com/example/minisum/minisum/Point", "hashCode", "()I"⟩ : MethodName)) hown (mvT hZ (own_w hw 22 rfl)) (mvT hZ (own_w hw 23 rfl)) (notFace_of_selects (args := #[]) (mvT hZ (own_w hw 25 rfl))) (mvT hZ (own_w hw 25 rfl)) (mvT hZ (own_w hw 24 rfl)) (by decide) (backOf (W := 0) (rmm5 l Z a0 hw [] b119 (FP.i2d p0) (FP.i2d p1) T125.heap n0 ZZ126 Fc127 Fc128 ((i2d_fin _).noNaN) ((i2d_fin _).noNaN)) hZ (own_w hw 26 rfl) (own_w hw 2 rfl) (by decide) (by decide)) q131a q131c (g := (mkF m 111 #[.val (.int p0), .val (.int p1), .val (.int p2), .val (.int p3), .val (.int p4), .val (.int 0), .val (.int 1), .val (.double (FP.i2d p0)), .second, .val (.double (FP.i2d p1)), .second, .val (.double (FP.i2d p1)), .second, .val (.double (FP.i2d p0)), .second, .val (.ref b119), .val (.ref b123), .val (.int (own_hash (FP.i2d p0) (FP.i2d p1))), .unset, .unset, .unset] [(.ref b119)])) rfl (by rw [hml]; rfl) (Steps.refl _) (argsL := []) (rest := []) (lenOf pd7 rfl) rfl (by show 2 * 0 + _ ≤ _; exact Nat.le_of_eq rfl) (hb hby at_111) (fun _ _ => ⟨rfl, P129_0, (by decide : 2 + 0 ≤ _), (by decide : 4 + 0 ≤ _)⟩)
      dsimp only [Pt.U, Pt.locs, Pt.cells, Pt.slots] at X131 l131 y131 z131 st131 hQ131
      subst l131 y131 z131
      obtain ⟨rfl, Nq131, P131_0⟩ := hQ131
      have N131 := Fr.app N129 Nq131
      obtain ⟨cq132, kq132, q132a, q132b, q132c⟩ := isOf hZ P131_0 P125_1
      obtain ⟨_, _, ⟨T132, L132, k132, n132⟩, -, X132, ⟨Lc132, hQ132, l132, y132, z132⟩, st132⟩ := X131.virtualBack hx (y := (⟨"com/example/minisum/minisum/Point", "hashCode", "()I"⟩ : MethodName)) (z := (⟨"com/example/minisum/minisum/Point", "hashCode", "()I"⟩ : MethodName)) hown (mvT hZ (own_w hw 22 rfl)) (mvT hZ (own_w hw 23 rfl)) (notFace_of_selects (args := #[]) (mvT hZ (own_w hw 25 rfl))) (mvT hZ (own_w hw 25 rfl)) (mvT hZ (own_w hw 24 rfl)) (by decide) (backOf (W := 0) (rmm5 l Z a0 hw [] b123 (FP.i2d p1) (FP.i2d p0) T125.heap n0 ZZ126 P125_2 P125_3 ((i2d_fin _).noNaN) ((i2d_fin _).noNaN)) hZ (own_w hw 26 rfl) (own_w hw 2 rfl) (by decide) (by decide)) q132a q132c (g := (mkF m 118 #[.val (.int p0), .val (.int p1), .val (.int p2), .val (.int p3), .val (.int p4), .val (.int 0), .val (.int 1), .val (.double (FP.i2d p0)), .second, .val (.double (FP.i2d p1)), .second, .val (.double (FP.i2d p1)), .second, .val (.double (FP.i2d p0)), .second, .val (.ref b119), .val (.ref b123), .val (.int (own_hash (FP.i2d p0) (FP.i2d p1))), .val (.int (own_hash (FP.i2d p0) (FP.i2d p1))), .unset, .unset] [(.ref b123)])) rfl (by rw [hml]; rfl) (Steps.refl _) (argsL := []) (rest := []) (lenOf pd7 rfl) rfl (by show 2 * 0 + _ ≤ _; exact Nat.le_of_eq rfl) (hb hby at_118) (fun _ _ => ⟨rfl, P131_0, (by decide : 2 + 0 ≤ _), (by decide : 4 + 0 ≤ _)⟩)
      dsimp only [Pt.U, Pt.locs, Pt.cells, Pt.slots] at X132 l132 y132 z132 st132 hQ132
      subst l132 y132 z132
      obtain ⟨rfl, Nq132, P132_0⟩ := hQ132
      have N132 := Fr.app N131 Nq132
      obtain ⟨cq133, kq133, q133a, q133b, q133c⟩ := isOf hZ P132_0 Fc130
      obtain ⟨_, _, ⟨T133, L133, k133, n133⟩, -, X133, ⟨Lc133, hQ133, l133, y133, z133⟩, st133⟩ := X132.virtualBack hx (y := (⟨"com/example/minisum/minisum/Point", "equals", "(Ljava/lang/Object;)Z"⟩ : MethodName)) (z := (⟨"com/example/minisum/minisum/Point", "equals", "(Ljava/lang/Object;)Z"⟩ : MethodName)) hown (mvT hZ (own_w hw 43 rfl)) (mvT hZ (own_w hw 44 rfl)) (notFace_of_selects (args := #[]) (mvT hZ (own_w hw 46 rfl))) (mvT hZ (own_w hw 46 rfl)) (mvT hZ (own_w hw 45 rfl)) (by decide) (backOf (W := 0) (rmm10 l Z a0 hw [] b119 b123 (FP.i2d p0) (FP.i2d p1) (FP.i2d p1) (FP.i2d p0) T125.heap n0 ZZ126 Fc127 Fc128 P125_2 P125_3 P125_1 ((i2d_fin _).noNaN) ((i2d_fin _).noNaN) ((i2d_fin _).noNaN) ((i2d_fin _).noNaN)) hZ (own_w hw 47 rfl) (own_w hw 2 rfl) (by decide) (by decide)) q133a q133c (g := (mkF m 127 #[.val (.int p0), .val (.int p1), .val (.int p2), .val (.int p3), .val (.int p4), .val (.int 0), .val (.int 1), .val (.double (FP.i2d p0)), .second, .val (.double (FP.i2d p1)), .second, .val (.double (FP.i2d p1)), .second, .val (.double (FP.i2d p0)), .second, .val (.ref b119), .val (.ref b123), .val (.int (own_hash (FP.i2d p0) (FP.i2d p1))), .val (.int (own_hash (FP.i2d p0) (FP.i2d p1))), .val (.int (own_hash (FP.i2d p1) (FP.i2d p0))), .unset] [(.ref b123), (.ref b119)])) rfl (by rw [hml]; rfl) (Steps.refl _) (argsL := [(.ref b123)]) (rest := []) (lenOf pd8 rfl) rfl (by show 2 * 0 + _ ≤ _; exact Nat.le_of_eq rfl) (hb hby at_127) (fun _ _ => ⟨rfl, P132_0, (by decide : 2 + 0 ≤ _), (by decide : 4 + 0 ≤ _)⟩)
      dsimp only [Pt.U, Pt.locs, Pt.cells, Pt.slots] at X133 l133 y133 z133 st133 hQ133
      subst l133 y133 z133
      obtain ⟨rfl, Nq133, P133_0⟩ := hQ133
      have N133 := Fr.app N132 Nq133
      have pre134 : ∀ t, Steps p.tables e below (T133.setTop (mkF m 155 #[.val (.int p0), .val (.int p1), .val (.int p2), .val (.int p3), .val (.int p4), .val (.int 0), .val (.int 1), .val (.double (FP.i2d p0)), .second, .val (.double (FP.i2d p1)), .second, .val (.double (FP.i2d p1)), .second, .val (.double (FP.i2d p0)), .second, .val (.ref b119), .val (.ref b123), .val (.int (own_hash (FP.i2d p0) (FP.i2d p1))), .val (.int (own_hash (FP.i2d p0) (FP.i2d p1))), .val (.int (own_hash (FP.i2d p1) (FP.i2d p0))), .val (.int (own_eq (FP.i2d p0) (FP.i2d p1) (FP.i2d p1) (FP.i2d p0)))] [(.int (own_eq (FP.i2d p0) (FP.i2d p1) (FP.i2d p1) (FP.i2d p0)))])) t → Steps p.tables e below (s₁.setTop (mkF m 0 #[.val (.int p0), .val (.int p1), .val (.int p2), .val (.int p3), .val (.int p4), .unset, .unset, .unset, .unset, .unset, .unset, .unset, .unset, .unset, .unset, .unset, .unset, .unset, .unset, .unset, .unset] [])) t := by
        intro t kt
        refine pre102 _ ?_
        show own_S p e below s₁ m 18 #[.val (.int p0), .val (.int p1), .val (.int p2), .val (.int p3), .val (.int p4), .val (.int 0), .unset, .unset, .unset, .unset, .unset, .unset, .unset, .unset, .unset, .unset, .unset, .unset, .unset, .unset, .unset] [(.int (p4 &&& (2 : Int32)))] _
        refine XS.ifNo X0.here hx rfl (hb hby at_18) rfl ((if0 _ _).trans (feq (hswap : ¬ ((p4 &&& (2 : Int32)) = (0 : Int32)))).1) ?_
        show own_S p e below s₁ m 21 #[.val (.int p0), .val (.int p1), .val (.int p2), .val (.int p3), .val (.int p4), .val (.int 0), .unset, .unset, .unset, .unset, .unset, .unset, .unset, .unset, .unset, .unset, .unset, .unset, .unset, .unset, .unset] [] _
        refine XS.iconst X0.here hx rfl (hb hby at_21) ?_
        show own_S p e below s₁ m 22 #[.val (.int p0), .val (.int p1), .val (.int p2), .val (.int p3), .val (.int p4), .val (.int 0), .unset, .unset, .unset, .unset, .unset, .unset, .unset, .unset, .unset, .unset, .unset, .unset, .unset, .unset, .unset] [(.int 1)] _
        refine XS.goto X0.here hx rfl (pc0 := 22) (pc' := 26) rfl (hb hby at_22) (by decide) (by decide) ?_
        show own_S p e below s₁ m 26 #[.val (.int p0), .val (.int p1), .val (.int p2), .val (.int p3), .val (.int p4), .val (.int 0), .unset, .unset, .unset, .unset, .unset, .unset, .unset, .unset, .unset, .unset, .unset, .unset, .unset, .unset, .unset] [(.int 1)] _
        refine XS.istore X0.here hx rfl (hb hby at_26) rfl (l' := #[.val (.int p0), .val (.int p1), .val (.int p2), .val (.int p3), .val (.int p4), .val (.int 0), .val (.int 1), .unset, .unset, .unset, .unset, .unset, .unset, .unset, .unset, .unset, .unset, .unset, .unset, .unset, .unset]) rfl ?_
        show own_S p e below s₁ m 28 #[.val (.int p0), .val (.int p1), .val (.int p2), .val (.int p3), .val (.int p4), .val (.int 0), .val (.int 1), .unset, .unset, .unset, .unset, .unset, .unset, .unset, .unset, .unset, .unset, .unset, .unset, .unset, .unset] [] _
        refine XS.iloadN X0.here hx rfl (hb hby at_28) rfl ?_
        show own_S p e below s₁ m 29 #[.val (.int p0), .val (.int p1), .val (.int p2), .val (.int p3), .val (.int p4), .val (.int 0), .val (.int 1), .unset, .unset, .unset, .unset, .unset, .unset, .unset, .unset, .unset, .unset, .unset, .unset, .unset, .unset] [(.int p0)] _
        refine XS.i2dS X0.here hx rfl (v := (FP.i2d p0)) (hb hby at_29) rfl rfl ?_
        show own_S p e below s₁ m 30 #[.val (.int p0), .val (.int p1), .val (.int p2), .val (.int p3), .val (.int p4), .val (.int 0), .val (.int 1), .unset, .unset, .unset, .unset, .unset, .unset, .unset, .unset, .unset, .unset, .unset, .unset, .unset, .unset] [(.double (FP.i2d p0))] _
        refine XS.dstore X0.here hx rfl (hb hby at_30) rfl (l' := #[.val (.int p0), .val (.int p1), .val (.int p2), .val (.int p3), .val (.int p4), .val (.int 0), .val (.int 1), .val (.double (FP.i2d p0)), .second, .unset, .unset, .unset, .unset, .unset, .unset, .unset, .unset, .unset, .unset, .unset, .unset]) rfl ?_
        show own_S p e below s₁ m 32 #[.val (.int p0), .val (.int p1), .val (.int p2), .val (.int p3), .val (.int p4), .val (.int 0), .val (.int 1), .val (.double (FP.i2d p0)), .second, .unset, .unset, .unset, .unset, .unset, .unset, .unset, .unset, .unset, .unset, .unset, .unset] [] _
        refine XS.iloadN X0.here hx rfl (hb hby at_32) rfl ?_
        show own_S p e below s₁ m 33 #[.val (.int p0), .val (.int p1), .val (.int p2), .val (.int p3), .val (.int p4), .val (.int 0), .val (.int 1), .val (.double (FP.i2d p0)), .second, .unset, .unset, .unset, .unset, .unset, .unset, .unset, .unset, .unset, .unset, .unset, .unset] [(.int p1)] _
        refine XS.i2dS X0.here hx rfl (v := (FP.i2d p1)) (hb hby at_33) rfl rfl ?_
        show own_S p e below s₁ m 34 #[.val (.int p0), .val (.int p1), .val (.int p2), .val (.int p3), .val (.int p4), .val (.int 0), .val (.int 1), .val (.double (FP.i2d p0)), .second, .unset, .unset, .unset, .unset, .unset, .unset, .unset, .unset, .unset, .unset, .unset, .unset] [(.double (FP.i2d p1))] _
        refine XS.dstore X0.here hx rfl (hb hby at_34) rfl (l' := #[.val (.int p0), .val (.int p1), .val (.int p2), .val (.int p3), .val (.int p4), .val (.int 0), .val (.int 1), .val (.double (FP.i2d p0)), .second, .val (.double (FP.i2d p1)), .second, .unset, .unset, .unset, .unset, .unset, .unset, .unset, .unset, .unset, .unset]) rfl ?_
        show own_S p e below s₁ m 36 #[.val (.int p0), .val (.int p1), .val (.int p2), .val (.int p3), .val (.int p4), .val (.int 0), .val (.int 1), .val (.double (FP.i2d p0)), .second, .val (.double (FP.i2d p1)), .second, .unset, .unset, .unset, .unset, .unset, .unset, .unset, .unset, .unset, .unset] [] _
        refine XS.iload X0.here hx rfl (hb hby at_36) rfl ?_
        show own_S p e below s₁ m 38 #[.val (.int p0), .val (.int p1), .val (.int p2), .val (.int p3), .val (.int p4), .val (.int 0), .val (.int 1), .val (.double (FP.i2d p0)), .second, .val (.double (FP.i2d p1)), .second, .unset, .unset, .unset, .unset, .unset, .unset, .unset, .unset, .unset, .unset] [(.int 0)] _
        refine XS.ifYes X0.here hx rfl (pc0 := 38) (pc' := 52) rfl (hb hby at_38) rfl ((if0 _ _).trans (teq (by decide : (0 : Int32) = (0 : Int32))).1) (by decide) (by decide) ?_
        show own_S p e below s₁ m 52 #[.val (.int p0), .val (.int p1), .val (.int p2), .val (.int p3), .val (.int p4), .val (.int 0), .val (.int 1), .val (.double (FP.i2d p0)), .second, .val (.double (FP.i2d p1)), .second, .unset, .unset, .unset, .unset, .unset, .unset, .unset, .unset, .unset, .unset] [] _
        refine XS.iload X0.here hx rfl (hb hby at_52) rfl ?_
        show own_S p e below s₁ m 54 #[.val (.int p0), .val (.int p1), .val (.int p2), .val (.int p3), .val (.int p4), .val (.int 0), .val (.int 1), .val (.double (FP.i2d p0)), .second, .val (.double (FP.i2d p1)), .second, .unset, .unset, .unset, .unset, .unset, .unset, .unset, .unset, .unset, .unset] [(.int 1)] _
        refine XS.ifNo X0.here hx rfl (hb hby at_54) rfl ((if0 _ _).trans (feq (by decide : ¬ ((1 : Int32) = (0 : Int32)))).1) ?_
        show own_S p e below s₁ m 57 #[.val (.int p0), .val (.int p1), .val (.int p2), .val (.int p3), .val (.int p4), .val (.int 0), .val (.int 1), .val (.double (FP.i2d p0)), .second, .val (.double (FP.i2d p1)), .second, .unset, .unset, .unset, .unset, .unset, .unset, .unset, .unset, .unset, .unset] [] _
        refine XS.iloadN X0.here hx rfl (hb hby at_57) rfl ?_
        show own_S p e below s₁ m 58 #[.val (.int p0), .val (.int p1), .val (.int p2), .val (.int p3), .val (.int p4), .val (.int 0), .val (.int 1), .val (.double (FP.i2d p0)), .second, .val (.double (FP.i2d p1)), .second, .unset, .unset, .unset, .unset, .unset, .unset, .unset, .unset, .unset, .unset] [(.int p1)] _
        refine XS.i2dS X0.here hx rfl (v := (FP.i2d p1)) (hb hby at_58) rfl rfl ?_
        show own_S p e below s₁ m 59 #[.val (.int p0), .val (.int p1), .val (.int p2), .val (.int p3), .val (.int p4), .val (.int 0), .val (.int 1), .val (.double (FP.i2d p0)), .second, .val (.double (FP.i2d p1)), .second, .unset, .unset, .unset, .unset, .unset, .unset, .unset, .unset, .unset, .unset] [(.double (FP.i2d p1))] _
        refine XS.dstore X0.here hx rfl (hb hby at_59) rfl (l' := #[.val (.int p0), .val (.int p1), .val (.int p2), .val (.int p3), .val (.int p4), .val (.int 0), .val (.int 1), .val (.double (FP.i2d p0)), .second, .val (.double (FP.i2d p1)), .second, .val (.double (FP.i2d p1)), .second, .unset, .unset, .unset, .unset, .unset, .unset, .unset, .unset]) rfl ?_
        show own_S p e below s₁ m 61 #[.val (.int p0), .val (.int p1), .val (.int p2), .val (.int p3), .val (.int p4), .val (.int 0), .val (.int 1), .val (.double (FP.i2d p0)), .second, .val (.double (FP.i2d p1)), .second, .val (.double (FP.i2d p1)), .second, .unset, .unset, .unset, .unset, .unset, .unset, .unset, .unset] [] _
        refine XS.iloadN X0.here hx rfl (hb hby at_61) rfl ?_
        show own_S p e below s₁ m 62 #[.val (.int p0), .val (.int p1), .val (.int p2), .val (.int p3), .val (.int p4), .val (.int 0), .val (.int 1), .val (.double (FP.i2d p0)), .second, .val (.double (FP.i2d p1)), .second, .val (.double (FP.i2d p1)), .second, .unset, .unset, .unset, .unset, .unset, .unset, .unset, .unset] [(.int p0)] _
        refine XS.i2dS X0.here hx rfl (v := (FP.i2d p0)) (hb hby at_62) rfl rfl ?_
        show own_S p e below s₁ m 63 #[.val (.int p0), .val (.int p1), .val (.int p2), .val (.int p3), .val (.int p4), .val (.int 0), .val (.int 1), .val (.double (FP.i2d p0)), .second, .val (.double (FP.i2d p1)), .second, .val (.double (FP.i2d p1)), .second, .unset, .unset, .unset, .unset, .unset, .unset, .unset, .unset] [(.double (FP.i2d p0))] _
        refine XS.dstore X0.here hx rfl (hb hby at_63) rfl (l' := #[.val (.int p0), .val (.int p1), .val (.int p2), .val (.int p3), .val (.int p4), .val (.int 0), .val (.int 1), .val (.double (FP.i2d p0)), .second, .val (.double (FP.i2d p1)), .second, .val (.double (FP.i2d p1)), .second, .val (.double (FP.i2d p0)), .second, .unset, .unset, .unset, .unset, .unset, .unset]) rfl ?_
        show own_S p e below s₁ m 65 #[.val (.int p0), .val (.int p1), .val (.int p2), .val (.int p3), .val (.int p4), .val (.int 0), .val (.int 1), .val (.double (FP.i2d p0)), .second, .val (.double (FP.i2d p1)), .second, .val (.double (FP.i2d p1)), .second, .val (.double (FP.i2d p0)), .second, .unset, .unset, .unset, .unset, .unset, .unset] [] _
        refine XS.goto X0.here hx rfl (pc0 := 65) (pc' := 76) rfl (hb hby at_65) (by decide) (by decide) ?_
        show own_S p e below s₁ m 76 #[.val (.int p0), .val (.int p1), .val (.int p2), .val (.int p3), .val (.int p4), .val (.int 0), .val (.int 1), .val (.double (FP.i2d p0)), .second, .val (.double (FP.i2d p1)), .second, .val (.double (FP.i2d p1)), .second, .val (.double (FP.i2d p0)), .second, .unset, .unset, .unset, .unset, .unset, .unset] [] _
        refine st119 _ ?_
        show own_S p e below T119 m 79 #[.val (.int p0), .val (.int p1), .val (.int p2), .val (.int p3), .val (.int p4), .val (.int 0), .val (.int 1), .val (.double (FP.i2d p0)), .second, .val (.double (FP.i2d p1)), .second, .val (.double (FP.i2d p1)), .second, .val (.double (FP.i2d p0)), .second, .unset, .unset, .unset, .unset, .unset, .unset] [(.ref b119)] _
        refine XS.dup X119.here hx rfl (hb hby at_79) rfl rfl ?_
        show own_S p e below T119 m 80 #[.val (.int p0), .val (.int p1), .val (.int p2), .val (.int p3), .val (.int p4), .val (.int 0), .val (.int 1), .val (.double (FP.i2d p0)), .second, .val (.double (FP.i2d p1)), .second, .val (.double (FP.i2d p1)), .second, .val (.double (FP.i2d p0)), .second, .unset, .unset, .unset, .unset, .unset, .unset] [(.ref b119), (.ref b119)] _
        refine XS.dload X119.here hx rfl (hb hby at_80) rfl ?_
        show own_S p e below T119 m 82 #[.val (.int p0), .val (.int p1), .val (.int p2), .val (.int p3), .val (.int p4), .val (.int 0), .val (.int 1), .val (.double (FP.i2d p0)), .second, .val (.double (FP.i2d p1)), .second, .val (.double (FP.i2d p1)), .second, .val (.double (FP.i2d p0)), .second, .unset, .unset, .unset, .unset, .unset, .unset] [(.double (FP.i2d p0)), (.ref b119), (.ref b119)] _
        refine XS.dload X119.here hx rfl (hb hby at_82) rfl ?_
        show own_S p e below T119 m 84 #[.val (.int p0), .val (.int p1), .val (.int p2), .val (.int p3), .val (.int p4), .val (.int 0), .val (.int 1), .val (.double (FP.i2d p0)), .second, .val (.double (FP.i2d p1)), .second, .val (.double (FP.i2d p1)), .second, .val (.double (FP.i2d p0)), .second, .unset, .unset, .unset, .unset, .unset, .unset] [(.double (FP.i2d p1)), (.double (FP.i2d p0)), (.ref b119), (.ref b119)] _
        refine st121.trans ?_
        show own_S p e below T121 m 87 #[.val (.int p0), .val (.int p1), .val (.int p2), .val (.int p3), .val (.int p4), .val (.int 0), .val (.int 1), .val (.double (FP.i2d p0)), .second, .val (.double (FP.i2d p1)), .second, .val (.double (FP.i2d p1)), .second, .val (.double (FP.i2d p0)), .second, .unset, .unset, .unset, .unset, .unset, .unset] [(.ref b119)] _
        refine XS.astore X121.here hx rfl (hb hby at_87) rfl rfl (l' := #[.val (.int p0), .val (.int p1), .val (.int p2), .val (.int p3), .val (.int p4), .val (.int 0), .val (.int 1), .val (.double (FP.i2d p0)), .second, .val (.double (FP.i2d p1)), .second, .val (.double (FP.i2d p1)), .second, .val (.double (FP.i2d p0)), .second, .val (.ref b119), .unset, .unset, .unset, .unset, .unset]) rfl ?_
        show own_S p e below T121 m 89 #[.val (.int p0), .val (.int p1), .val (.int p2), .val (.int p3), .val (.int p4), .val (.int 0), .val (.int 1), .val (.double (FP.i2d p0)), .second, .val (.double (FP.i2d p1)), .second, .val (.double (FP.i2d p1)), .second, .val (.double (FP.i2d p0)), .second, .val (.ref b119), .unset, .unset, .unset, .unset, .unset] [] _
        refine st123 _ ?_
        show own_S p e below T123 m 92 #[.val (.int p0), .val (.int p1), .val (.int p2), .val (.int p3), .val (.int p4), .val (.int 0), .val (.int 1), .val (.double (FP.i2d p0)), .second, .val (.double (FP.i2d p1)), .second, .val (.double (FP.i2d p1)), .second, .val (.double (FP.i2d p0)), .second, .val (.ref b119), .unset, .unset, .unset, .unset, .unset] [(.ref b123)] _
        refine XS.dup X123.here hx rfl (hb hby at_92) rfl rfl ?_
        show own_S p e below T123 m 93 #[.val (.int p0), .val (.int p1), .val (.int p2), .val (.int p3), .val (.int p4), .val (.int 0), .val (.int 1), .val (.double (FP.i2d p0)), .second, .val (.double (FP.i2d p1)), .second, .val (.double (FP.i2d p1)), .second, .val (.double (FP.i2d p0)), .second, .val (.ref b119), .unset, .unset, .unset, .unset, .unset] [(.ref b123), (.ref b123)] _
        refine XS.dload X123.here hx rfl (hb hby at_93) rfl ?_
        show own_S p e below T123 m 95 #[.val (.int p0), .val (.int p1), .val (.int p2), .val (.int p3), .val (.int p4), .val (.int 0), .val (.int 1), .val (.double (FP.i2d p0)), .second, .val (.double (FP.i2d p1)), .second, .val (.double (FP.i2d p1)), .second, .val (.double (FP.i2d p0)), .second, .val (.ref b119), .unset, .unset, .unset, .unset, .unset] [(.double (FP.i2d p1)), (.ref b123), (.ref b123)] _
        refine XS.dload X123.here hx rfl (hb hby at_95) rfl ?_
        show own_S p e below T123 m 97 #[.val (.int p0), .val (.int p1), .val (.int p2), .val (.int p3), .val (.int p4), .val (.int 0), .val (.int 1), .val (.double (FP.i2d p0)), .second, .val (.double (FP.i2d p1)), .second, .val (.double (FP.i2d p1)), .second, .val (.double (FP.i2d p0)), .second, .val (.ref b119), .unset, .unset, .unset, .unset, .unset] [(.double (FP.i2d p0)), (.double (FP.i2d p1)), (.ref b123), (.ref b123)] _
        refine st125.trans ?_
        show own_S p e below T125 m 100 #[.val (.int p0), .val (.int p1), .val (.int p2), .val (.int p3), .val (.int p4), .val (.int 0), .val (.int 1), .val (.double (FP.i2d p0)), .second, .val (.double (FP.i2d p1)), .second, .val (.double (FP.i2d p1)), .second, .val (.double (FP.i2d p0)), .second, .val (.ref b119), .unset, .unset, .unset, .unset, .unset] [(.ref b123)] _
        refine XS.astore X125.here hx rfl (hb hby at_100) rfl rfl (l' := #[.val (.int p0), .val (.int p1), .val (.int p2), .val (.int p3), .val (.int p4), .val (.int 0), .val (.int 1), .val (.double (FP.i2d p0)), .second, .val (.double (FP.i2d p1)), .second, .val (.double (FP.i2d p1)), .second, .val (.double (FP.i2d p0)), .second, .val (.ref b119), .val (.ref b123), .unset, .unset, .unset, .unset]) rfl ?_
        show own_S p e below T125 m 102 #[.val (.int p0), .val (.int p1), .val (.int p2), .val (.int p3), .val (.int p4), .val (.int 0), .val (.int 1), .val (.double (FP.i2d p0)), .second, .val (.double (FP.i2d p1)), .second, .val (.double (FP.i2d p1)), .second, .val (.double (FP.i2d p0)), .second, .val (.ref b119), .val (.ref b123), .unset, .unset, .unset, .unset] [] _
        refine XS.aload X125.here hx rfl (hb hby at_102) rfl rfl ?_
        show own_S p e below T125 m 104 #[.val (.int p0), .val (.int p1), .val (.int p2), .val (.int p3), .val (.int p4), .val (.int 0), .val (.int 1), .val (.double (FP.i2d p0)), .second, .val (.double (FP.i2d p1)), .second, .val (.double (FP.i2d p1)), .second, .val (.double (FP.i2d p0)), .second, .val (.ref b119), .val (.ref b123), .unset, .unset, .unset, .unset] [(.ref b119)] _
        refine st129.trans ?_
        show own_S p e below T129 m 107 #[.val (.int p0), .val (.int p1), .val (.int p2), .val (.int p3), .val (.int p4), .val (.int 0), .val (.int 1), .val (.double (FP.i2d p0)), .second, .val (.double (FP.i2d p1)), .second, .val (.double (FP.i2d p1)), .second, .val (.double (FP.i2d p0)), .second, .val (.ref b119), .val (.ref b123), .unset, .unset, .unset, .unset] [(.int (own_hash (FP.i2d p0) (FP.i2d p1)))] _
        refine XS.istore X129.here hx rfl (hb hby at_107) rfl (l' := #[.val (.int p0), .val (.int p1), .val (.int p2), .val (.int p3), .val (.int p4), .val (.int 0), .val (.int 1), .val (.double (FP.i2d p0)), .second, .val (.double (FP.i2d p1)), .second, .val (.double (FP.i2d p1)), .second, .val (.double (FP.i2d p0)), .second, .val (.ref b119), .val (.ref b123), .val (.int (own_hash (FP.i2d p0) (FP.i2d p1))), .unset, .unset, .unset]) rfl ?_
        show own_S p e below T129 m 109 #[.val (.int p0), .val (.int p1), .val (.int p2), .val (.int p3), .val (.int p4), .val (.int 0), .val (.int 1), .val (.double (FP.i2d p0)), .second, .val (.double (FP.i2d p1)), .second, .val (.double (FP.i2d p1)), .second, .val (.double (FP.i2d p0)), .second, .val (.ref b119), .val (.ref b123), .val (.int (own_hash (FP.i2d p0) (FP.i2d p1))), .unset, .unset, .unset] [] _
        refine XS.aload X129.here hx rfl (hb hby at_109) rfl rfl ?_
        show own_S p e below T129 m 111 #[.val (.int p0), .val (.int p1), .val (.int p2), .val (.int p3), .val (.int p4), .val (.int 0), .val (.int 1), .val (.double (FP.i2d p0)), .second, .val (.double (FP.i2d p1)), .second, .val (.double (FP.i2d p1)), .second, .val (.double (FP.i2d p0)), .second, .val (.ref b119), .val (.ref b123), .val (.int (own_hash (FP.i2d p0) (FP.i2d p1))), .unset, .unset, .unset] [(.ref b119)] _
        refine st131.trans ?_
        show own_S p e below T131 m 114 #[.val (.int p0), .val (.int p1), .val (.int p2), .val (.int p3), .val (.int p4), .val (.int 0), .val (.int 1), .val (.double (FP.i2d p0)), .second, .val (.double (FP.i2d p1)), .second, .val (.double (FP.i2d p1)), .second, .val (.double (FP.i2d p0)), .second, .val (.ref b119), .val (.ref b123), .val (.int (own_hash (FP.i2d p0) (FP.i2d p1))), .unset, .unset, .unset] [(.int (own_hash (FP.i2d p0) (FP.i2d p1)))] _
        refine XS.istore X131.here hx rfl (hb hby at_114) rfl (l' := #[.val (.int p0), .val (.int p1), .val (.int p2), .val (.int p3), .val (.int p4), .val (.int 0), .val (.int 1), .val (.double (FP.i2d p0)), .second, .val (.double (FP.i2d p1)), .second, .val (.double (FP.i2d p1)), .second, .val (.double (FP.i2d p0)), .second, .val (.ref b119), .val (.ref b123), .val (.int (own_hash (FP.i2d p0) (FP.i2d p1))), .val (.int (own_hash (FP.i2d p0) (FP.i2d p1))), .unset, .unset]) rfl ?_
        show own_S p e below T131 m 116 #[.val (.int p0), .val (.int p1), .val (.int p2), .val (.int p3), .val (.int p4), .val (.int 0), .val (.int 1), .val (.double (FP.i2d p0)), .second, .val (.double (FP.i2d p1)), .second, .val (.double (FP.i2d p1)), .second, .val (.double (FP.i2d p0)), .second, .val (.ref b119), .val (.ref b123), .val (.int (own_hash (FP.i2d p0) (FP.i2d p1))), .val (.int (own_hash (FP.i2d p0) (FP.i2d p1))), .unset, .unset] [] _
        refine XS.aload X131.here hx rfl (hb hby at_116) rfl rfl ?_
        show own_S p e below T131 m 118 #[.val (.int p0), .val (.int p1), .val (.int p2), .val (.int p3), .val (.int p4), .val (.int 0), .val (.int 1), .val (.double (FP.i2d p0)), .second, .val (.double (FP.i2d p1)), .second, .val (.double (FP.i2d p1)), .second, .val (.double (FP.i2d p0)), .second, .val (.ref b119), .val (.ref b123), .val (.int (own_hash (FP.i2d p0) (FP.i2d p1))), .val (.int (own_hash (FP.i2d p0) (FP.i2d p1))), .unset, .unset] [(.ref b123)] _
        refine st132.trans ?_
        show own_S p e below T132 m 121 #[.val (.int p0), .val (.int p1), .val (.int p2), .val (.int p3), .val (.int p4), .val (.int 0), .val (.int 1), .val (.double (FP.i2d p0)), .second, .val (.double (FP.i2d p1)), .second, .val (.double (FP.i2d p1)), .second, .val (.double (FP.i2d p0)), .second, .val (.ref b119), .val (.ref b123), .val (.int (own_hash (FP.i2d p0) (FP.i2d p1))), .val (.int (own_hash (FP.i2d p0) (FP.i2d p1))), .unset, .unset] [(.int (own_hash (FP.i2d p1) (FP.i2d p0)))] _
        refine XS.istore X132.here hx rfl (hb hby at_121) rfl (l' := #[.val (.int p0), .val (.int p1), .val (.int p2), .val (.int p3), .val (.int p4), .val (.int 0), .val (.int 1), .val (.double (FP.i2d p0)), .second, .val (.double (FP.i2d p1)), .second, .val (.double (FP.i2d p1)), .second, .val (.double (FP.i2d p0)), .second, .val (.ref b119), .val (.ref b123), .val (.int (own_hash (FP.i2d p0) (FP.i2d p1))), .val (.int (own_hash (FP.i2d p0) (FP.i2d p1))), .val (.int (own_hash (FP.i2d p1) (FP.i2d p0))), .unset]) rfl ?_
        show own_S p e below T132 m 123 #[.val (.int p0), .val (.int p1), .val (.int p2), .val (.int p3), .val (.int p4), .val (.int 0), .val (.int 1), .val (.double (FP.i2d p0)), .second, .val (.double (FP.i2d p1)), .second, .val (.double (FP.i2d p1)), .second, .val (.double (FP.i2d p0)), .second, .val (.ref b119), .val (.ref b123), .val (.int (own_hash (FP.i2d p0) (FP.i2d p1))), .val (.int (own_hash (FP.i2d p0) (FP.i2d p1))), .val (.int (own_hash (FP.i2d p1) (FP.i2d p0))), .unset] [] _
        refine XS.aload X132.here hx rfl (hb hby at_123) rfl rfl ?_
        show own_S p e below T132 m 125 #[.val (.int p0), .val (.int p1), .val (.int p2), .val (.int p3), .val (.int p4), .val (.int 0), .val (.int 1), .val (.double (FP.i2d p0)), .second, .val (.double (FP.i2d p1)), .second, .val (.double (FP.i2d p1)), .second, .val (.double (FP.i2d p0)), .second, .val (.ref b119), .val (.ref b123), .val (.int (own_hash (FP.i2d p0) (FP.i2d p1))), .val (.int (own_hash (FP.i2d p0) (FP.i2d p1))), .val (.int (own_hash (FP.i2d p1) (FP.i2d p0))), .unset] [(.ref b119)] _
        refine XS.aload X132.here hx rfl (hb hby at_125) rfl rfl ?_
        show own_S p e below T132 m 127 #[.val (.int p0), .val (.int p1), .val (.int p2), .val (.int p3), .val (.int p4), .val (.int 0), .val (.int 1), .val (.double (FP.i2d p0)), .second, .val (.double (FP.i2d p1)), .second, .val (.double (FP.i2d p1)), .second, .val (.double (FP.i2d p0)), .second, .val (.ref b119), .val (.ref b123), .val (.int (own_hash (FP.i2d p0) (FP.i2d p1))), .val (.int (own_hash (FP.i2d p0) (FP.i2d p1))), .val (.int (own_hash (FP.i2d p1) (FP.i2d p0))), .unset] [(.ref b123), (.ref b119)] _
        refine st133.trans ?_
        show own_S p e below T133 m 130 #[.val (.int p0), .val (.int p1), .val (.int p2), .val (.int p3), .val (.int p4), .val (.int 0), .val (.int 1), .val (.double (FP.i2d p0)), .second, .val (.double (FP.i2d p1)), .second, .val (.double (FP.i2d p1)), .second, .val (.double (FP.i2d p0)), .second, .val (.ref b119), .val (.ref b123), .val (.int (own_hash (FP.i2d p0) (FP.i2d p1))), .val (.int (own_hash (FP.i2d p0) (FP.i2d p1))), .val (.int (own_hash (FP.i2d p1) (FP.i2d p0))), .unset] [(.int (own_eq (FP.i2d p0) (FP.i2d p1) (FP.i2d p1) (FP.i2d p0)))] _
        refine XS.istore X133.here hx rfl (hb hby at_130) rfl (l' := #[.val (.int p0), .val (.int p1), .val (.int p2), .val (.int p3), .val (.int p4), .val (.int 0), .val (.int 1), .val (.double (FP.i2d p0)), .second, .val (.double (FP.i2d p1)), .second, .val (.double (FP.i2d p1)), .second, .val (.double (FP.i2d p0)), .second, .val (.ref b119), .val (.ref b123), .val (.int (own_hash (FP.i2d p0) (FP.i2d p1))), .val (.int (own_hash (FP.i2d p0) (FP.i2d p1))), .val (.int (own_hash (FP.i2d p1) (FP.i2d p0))), .val (.int (own_eq (FP.i2d p0) (FP.i2d p1) (FP.i2d p1) (FP.i2d p0)))]) rfl ?_
        show own_S p e below T133 m 132 #[.val (.int p0), .val (.int p1), .val (.int p2), .val (.int p3), .val (.int p4), .val (.int 0), .val (.int 1), .val (.double (FP.i2d p0)), .second, .val (.double (FP.i2d p1)), .second, .val (.double (FP.i2d p1)), .second, .val (.double (FP.i2d p0)), .second, .val (.ref b119), .val (.ref b123), .val (.int (own_hash (FP.i2d p0) (FP.i2d p1))), .val (.int (own_hash (FP.i2d p0) (FP.i2d p1))), .val (.int (own_hash (FP.i2d p1) (FP.i2d p0))), .val (.int (own_eq (FP.i2d p0) (FP.i2d p1) (FP.i2d p1) (FP.i2d p0)))] [] _
        refine XS.iload X133.here hx rfl (hb hby at_132) rfl ?_
        show own_S p e below T133 m 134 #[.val (.int p0), .val (.int p1), .val (.int p2), .val (.int p3), .val (.int p4), .val (.int 0), .val (.int 1), .val (.double (FP.i2d p0)), .second, .val (.double (FP.i2d p1)), .second, .val (.double (FP.i2d p1)), .second, .val (.double (FP.i2d p0)), .second, .val (.ref b119), .val (.ref b123), .val (.int (own_hash (FP.i2d p0) (FP.i2d p1))), .val (.int (own_hash (FP.i2d p0) (FP.i2d p1))), .val (.int (own_hash (FP.i2d p1) (FP.i2d p0))), .val (.int (own_eq (FP.i2d p0) (FP.i2d p1) (FP.i2d p1) (FP.i2d p0)))] [(.int (own_hash (FP.i2d p0) (FP.i2d p1)))] _
        refine XS.iload X133.here hx rfl (hb hby at_134) rfl ?_
        show own_S p e below T133 m 136 #[.val (.int p0), .val (.int p1), .val (.int p2), .val (.int p3), .val (.int p4), .val (.int 0), .val (.int 1), .val (.double (FP.i2d p0)), .second, .val (.double (FP.i2d p1)), .second, .val (.double (FP.i2d p1)), .second, .val (.double (FP.i2d p0)), .second, .val (.ref b119), .val (.ref b123), .val (.int (own_hash (FP.i2d p0) (FP.i2d p1))), .val (.int (own_hash (FP.i2d p0) (FP.i2d p1))), .val (.int (own_hash (FP.i2d p1) (FP.i2d p0))), .val (.int (own_eq (FP.i2d p0) (FP.i2d p1) (FP.i2d p1) (FP.i2d p0)))] [(.int (own_hash (FP.i2d p0) (FP.i2d p1))), (.int (own_hash (FP.i2d p0) (FP.i2d p1)))] _
        refine XS.icmpYes X133.here hx rfl (pc0 := 136) (pc' := 141) rfl (hb hby at_136) rfl (teq (rfl : (own_hash (FP.i2d p0) (FP.i2d p1)) = (own_hash (FP.i2d p0) (FP.i2d p1)))).1 (by decide) (by decide) ?_
        show own_S p e below T133 m 141 #[.val (.int p0), .val (.int p1), .val (.int p2), .val (.int p3), .val (.int p4), .val (.int 0), .val (.int 1), .val (.double (FP.i2d p0)), .second, .val (.double (FP.i2d p1)), .second, .val (.double (FP.i2d p1)), .second, .val (.double (FP.i2d p0)), .second, .val (.ref b119), .val (.ref b123), .val (.int (own_hash (FP.i2d p0) (FP.i2d p1))), .val (.int (own_hash (FP.i2d p0) (FP.i2d p1))), .val (.int (own_hash (FP.i2d p1) (FP.i2d p0))), .val (.int (own_eq (FP.i2d p0) (FP.i2d p1) (FP.i2d p1) (FP.i2d p0)))] [] _
        refine XS.iload X133.here hx rfl (hb hby at_141) rfl ?_
        show own_S p e below T133 m 143 #[.val (.int p0), .val (.int p1), .val (.int p2), .val (.int p3), .val (.int p4), .val (.int 0), .val (.int 1), .val (.double (FP.i2d p0)), .second, .val (.double (FP.i2d p1)), .second, .val (.double (FP.i2d p1)), .second, .val (.double (FP.i2d p0)), .second, .val (.ref b119), .val (.ref b123), .val (.int (own_hash (FP.i2d p0) (FP.i2d p1))), .val (.int (own_hash (FP.i2d p0) (FP.i2d p1))), .val (.int (own_hash (FP.i2d p1) (FP.i2d p0))), .val (.int (own_eq (FP.i2d p0) (FP.i2d p1) (FP.i2d p1) (FP.i2d p0)))] [(.int 0)] _
        refine XS.ifYes X133.here hx rfl (pc0 := 143) (pc' := 153) rfl (hb hby at_143) rfl ((if0 _ _).trans (teq (by decide : (0 : Int32) = (0 : Int32))).1) (by decide) (by decide) ?_
        show own_S p e below T133 m 153 #[.val (.int p0), .val (.int p1), .val (.int p2), .val (.int p3), .val (.int p4), .val (.int 0), .val (.int 1), .val (.double (FP.i2d p0)), .second, .val (.double (FP.i2d p1)), .second, .val (.double (FP.i2d p1)), .second, .val (.double (FP.i2d p0)), .second, .val (.ref b119), .val (.ref b123), .val (.int (own_hash (FP.i2d p0) (FP.i2d p1))), .val (.int (own_hash (FP.i2d p0) (FP.i2d p1))), .val (.int (own_hash (FP.i2d p1) (FP.i2d p0))), .val (.int (own_eq (FP.i2d p0) (FP.i2d p1) (FP.i2d p1) (FP.i2d p0)))] [] _
        refine XS.iload X133.here hx rfl (hb hby at_153) rfl ?_
        exact kt
      by_cases heq : (own_eq (FP.i2d p0) (FP.i2d p1) (FP.i2d p1) (FP.i2d p0)) = (0 : Int32)
      · skip
        obtain ⟨fs, hr, hrun, hended, hW, hsame⟩ := X133.leave (v := some (.int 1)) (fun h => by rw [Bd.returns] at h; cases h)
        refine ⟨_, _, pre0 _ (pre134 _ ?_), hrun, hended, _, _, rfl, ?_, ⟨_, rfl⟩, hW, hsame.mono (by decide) (by decide)⟩
        · show own_S p e below T133 m 155 #[.val (.int p0), .val (.int p1), .val (.int p2), .val (.int p3), .val (.int p4), .val (.int 0), .val (.int 1), .val (.double (FP.i2d p0)), .second, .val (.double (FP.i2d p1)), .second, .val (.double (FP.i2d p1)), .second, .val (.double (FP.i2d p0)), .second, .val (.ref b119), .val (.ref b123), .val (.int (own_hash (FP.i2d p0) (FP.i2d p1))), .val (.int (own_hash (FP.i2d p0) (FP.i2d p1))), .val (.int (own_hash (FP.i2d p1) (FP.i2d p0))), .val (.int (own_eq (FP.i2d p0) (FP.i2d p1) (FP.i2d p1) (FP.i2d p0)))] [(.int (own_eq (FP.i2d p0) (FP.i2d p1) (FP.i2d p1) (FP.i2d p0)))] _
          refine XS.ifYes X133.here hx rfl (pc0 := 155) (pc' := 165) rfl (hb hby at_155) rfl ((if0 _ _).trans (teq (heq : (own_eq (FP.i2d p0) (FP.i2d p1) (FP.i2d p1) (FP.i2d p0)) = (0 : Int32))).1) (by decide) (by decide) ?_
          show own_S p e below T133 m 165 #[.val (.int p0), .val (.int p1), .val (.int p2), .val (.int p3), .val (.int p4), .val (.int 0), .val (.int 1), .val (.double (FP.i2d p0)), .second, .val (.double (FP.i2d p1)), .second, .val (.double (FP.i2d p1)), .second, .val (.double (FP.i2d p0)), .second, .val (.ref b119), .val (.ref b123), .val (.int (own_hash (FP.i2d p0) (FP.i2d p1))), .val (.int (own_hash (FP.i2d p0) (FP.i2d p1))), .val (.int (own_hash (FP.i2d p1) (FP.i2d p0))), .val (.int (own_eq (FP.i2d p0) (FP.i2d p1) (FP.i2d p1) (FP.i2d p0)))] [] _
          refine XS.iconst X133.here hx rfl (hb hby at_165) ?_
          show own_S p e below T133 m 166 #[.val (.int p0), .val (.int p1), .val (.int p2), .val (.int p3), .val (.int p4), .val (.int 0), .val (.int 1), .val (.double (FP.i2d p0)), .second, .val (.double (FP.i2d p1)), .second, .val (.double (FP.i2d p1)), .second, .val (.double (FP.i2d p0)), .second, .val (.ref b119), .val (.ref b123), .val (.int (own_hash (FP.i2d p0) (FP.i2d p1))), .val (.int (own_hash (FP.i2d p0) (FP.i2d p1))), .val (.int (own_hash (FP.i2d p1) (FP.i2d p0))), .val (.int (own_eq (FP.i2d p0) (FP.i2d p1) (FP.i2d p1) (FP.i2d p0)))] [(.int 1)] _
          refine XS.goto X133.here hx rfl (pc0 := 166) (pc' := 170) rfl (hb hby at_166) (by decide) (by decide) ?_
          show own_S p e below T133 m 170 #[.val (.int p0), .val (.int p1), .val (.int p2), .val (.int p3), .val (.int p4), .val (.int 0), .val (.int 1), .val (.double (FP.i2d p0)), .second, .val (.double (FP.i2d p1)), .second, .val (.double (FP.i2d p1)), .second, .val (.double (FP.i2d p0)), .second, .val (.ref b119), .val (.ref b123), .val (.int (own_hash (FP.i2d p0) (FP.i2d p1))), .val (.int (own_hash (FP.i2d p0) (FP.i2d p1))), .val (.int (own_hash (FP.i2d p1) (FP.i2d p0))), .val (.int (own_eq (FP.i2d p0) (FP.i2d p1) (FP.i2d p1) (FP.i2d p0)))] [(.int 1)] _
          exact retN X133 hx (t := .boolean) Bd.returns (by simp) (hb hby at_170) hr
        · show Qm0 Z p0 p1 p2 p3 p4 h0 n0 _ T133.heap _
          rw [P133_0]
          exact ⟨rfl, N133⟩
      · skip
        obtain ⟨fs, hr, hrun, hended, hW, hsame⟩ := X133.leave (v := some (.int 1)) (fun h => by rw [Bd.returns] at h; cases h)
        refine ⟨_, _, pre0 _ (pre134 _ ?_), hrun, hended, _, _, rfl, ?_, ⟨_, rfl⟩, hW, hsame.mono (by decide) (by decide)⟩
        · show own_S p e below T133 m 155 #[.val (.int p0), .val (.int p1), .val (.int p2), .val (.int p3), .val (.int p4), .val (.int 0), .val (.int 1), .val (.double (FP.i2d p0)), .second, .val (.double (FP.i2d p1)), .second, .val (.double (FP.i2d p1)), .second, .val (.double (FP.i2d p0)), .second, .val (.ref b119), .val (.ref b123), .val (.int (own_hash (FP.i2d p0) (FP.i2d p1))), .val (.int (own_hash (FP.i2d p0) (FP.i2d p1))), .val (.int (own_hash (FP.i2d p1) (FP.i2d p0))), .val (.int (own_eq (FP.i2d p0) (FP.i2d p1) (FP.i2d p1) (FP.i2d p0)))] [(.int (own_eq (FP.i2d p0) (FP.i2d p1) (FP.i2d p1) (FP.i2d p0)))] _
          refine XS.ifNo X133.here hx rfl (hb hby at_155) rfl ((if0 _ _).trans (feq (heq : ¬ ((own_eq (FP.i2d p0) (FP.i2d p1) (FP.i2d p1) (FP.i2d p0)) = (0 : Int32)))).1) ?_
          show own_S p e below T133 m 158 #[.val (.int p0), .val (.int p1), .val (.int p2), .val (.int p3), .val (.int p4), .val (.int 0), .val (.int 1), .val (.double (FP.i2d p0)), .second, .val (.double (FP.i2d p1)), .second, .val (.double (FP.i2d p1)), .second, .val (.double (FP.i2d p0)), .second, .val (.ref b119), .val (.ref b123), .val (.int (own_hash (FP.i2d p0) (FP.i2d p1))), .val (.int (own_hash (FP.i2d p0) (FP.i2d p1))), .val (.int (own_hash (FP.i2d p1) (FP.i2d p0))), .val (.int (own_eq (FP.i2d p0) (FP.i2d p1) (FP.i2d p1) (FP.i2d p0)))] [] _
          refine XS.iload X133.here hx rfl (hb hby at_158) rfl ?_
          show own_S p e below T133 m 160 #[.val (.int p0), .val (.int p1), .val (.int p2), .val (.int p3), .val (.int p4), .val (.int 0), .val (.int 1), .val (.double (FP.i2d p0)), .second, .val (.double (FP.i2d p1)), .second, .val (.double (FP.i2d p1)), .second, .val (.double (FP.i2d p0)), .second, .val (.ref b119), .val (.ref b123), .val (.int (own_hash (FP.i2d p0) (FP.i2d p1))), .val (.int (own_hash (FP.i2d p0) (FP.i2d p1))), .val (.int (own_hash (FP.i2d p1) (FP.i2d p0))), .val (.int (own_eq (FP.i2d p0) (FP.i2d p1) (FP.i2d p1) (FP.i2d p0)))] [(.int (own_hash (FP.i2d p0) (FP.i2d p1)))] _
          refine XS.iload X133.here hx rfl (hb hby at_160) rfl ?_
          show own_S p e below T133 m 162 #[.val (.int p0), .val (.int p1), .val (.int p2), .val (.int p3), .val (.int p4), .val (.int 0), .val (.int 1), .val (.double (FP.i2d p0)), .second, .val (.double (FP.i2d p1)), .second, .val (.double (FP.i2d p1)), .second, .val (.double (FP.i2d p0)), .second, .val (.ref b119), .val (.ref b123), .val (.int (own_hash (FP.i2d p0) (FP.i2d p1))), .val (.int (own_hash (FP.i2d p0) (FP.i2d p1))), .val (.int (own_hash (FP.i2d p1) (FP.i2d p0))), .val (.int (own_eq (FP.i2d p0) (FP.i2d p1) (FP.i2d p1) (FP.i2d p0)))] [(.int (own_hash (FP.i2d p1) (FP.i2d p0))), (.int (own_hash (FP.i2d p0) (FP.i2d p1)))] _
          refine XS.icmpNo X133.here hx rfl (hb hby at_162) rfl (teq (by obtain ⟨q1, q2⟩ := own_eq1 heq; rw [q1, q2] : (own_hash (FP.i2d p0) (FP.i2d p1)) = (own_hash (FP.i2d p1) (FP.i2d p0)))).2 ?_
          show own_S p e below T133 m 165 #[.val (.int p0), .val (.int p1), .val (.int p2), .val (.int p3), .val (.int p4), .val (.int 0), .val (.int 1), .val (.double (FP.i2d p0)), .second, .val (.double (FP.i2d p1)), .second, .val (.double (FP.i2d p1)), .second, .val (.double (FP.i2d p0)), .second, .val (.ref b119), .val (.ref b123), .val (.int (own_hash (FP.i2d p0) (FP.i2d p1))), .val (.int (own_hash (FP.i2d p0) (FP.i2d p1))), .val (.int (own_hash (FP.i2d p1) (FP.i2d p0))), .val (.int (own_eq (FP.i2d p0) (FP.i2d p1) (FP.i2d p1) (FP.i2d p0)))] [] _
          refine XS.iconst X133.here hx rfl (hb hby at_165) ?_
          show own_S p e below T133 m 166 #[.val (.int p0), .val (.int p1), .val (.int p2), .val (.int p3), .val (.int p4), .val (.int 0), .val (.int 1), .val (.double (FP.i2d p0)), .second, .val (.double (FP.i2d p1)), .second, .val (.double (FP.i2d p1)), .second, .val (.double (FP.i2d p0)), .second, .val (.ref b119), .val (.ref b123), .val (.int (own_hash (FP.i2d p0) (FP.i2d p1))), .val (.int (own_hash (FP.i2d p0) (FP.i2d p1))), .val (.int (own_hash (FP.i2d p1) (FP.i2d p0))), .val (.int (own_eq (FP.i2d p0) (FP.i2d p1) (FP.i2d p1) (FP.i2d p0)))] [(.int 1)] _
          refine XS.goto X133.here hx rfl (pc0 := 166) (pc' := 170) rfl (hb hby at_166) (by decide) (by decide) ?_
          show own_S p e below T133 m 170 #[.val (.int p0), .val (.int p1), .val (.int p2), .val (.int p3), .val (.int p4), .val (.int 0), .val (.int 1), .val (.double (FP.i2d p0)), .second, .val (.double (FP.i2d p1)), .second, .val (.double (FP.i2d p1)), .second, .val (.double (FP.i2d p0)), .second, .val (.ref b119), .val (.ref b123), .val (.int (own_hash (FP.i2d p0) (FP.i2d p1))), .val (.int (own_hash (FP.i2d p0) (FP.i2d p1))), .val (.int (own_hash (FP.i2d p1) (FP.i2d p0))), .val (.int (own_eq (FP.i2d p0) (FP.i2d p1) (FP.i2d p1) (FP.i2d p0)))] [(.int 1)] _
          exact retN X133 hx (t := .boolean) Bd.returns (by simp) (hb hby at_170) hr
        · show Qm0 Z p0 p1 p2 p3 p4 h0 n0 _ T133.heap _
          rw [P133_0]
          exact ⟨rfl, N133⟩
  · skip
    have pre135 : ∀ t, Steps p.tables e below (s₁.setTop (mkF m 18 #[.val (.int p0), .val (.int p1), .val (.int p2), .val (.int p3), .val (.int p4), .val (.int 1), .unset, .unset, .unset, .unset, .unset, .unset, .unset, .unset, .unset, .unset, .unset, .unset, .unset, .unset, .unset] [(.int (p4 &&& (2 : Int32)))])) t → Steps p.tables e below (s₁.setTop (mkF m 0 #[.val (.int p0), .val (.int p1), .val (.int p2), .val (.int p3), .val (.int p4), .unset, .unset, .unset, .unset, .unset, .unset, .unset, .unset, .unset, .unset, .unset, .unset, .unset, .unset, .unset, .unset] [])) t := by
      intro t kt
      refine pre101 _ ?_
      show own_S p e below s₁ m 4 #[.val (.int p0), .val (.int p1), .val (.int p2), .val (.int p3), .val (.int p4), .unset, .unset, .unset, .unset, .unset, .unset, .unset, .unset, .unset, .unset, .unset, .unset, .unset, .unset, .unset, .unset] [(.int (p4 &&& (1 : Int32)))] _
      refine XS.ifNo X0.here hx rfl (hb hby at_4) rfl ((if0 _ _).trans (feq (hsame : ¬ ((p4 &&& (1 : Int32)) = (0 : Int32)))).1) ?_
      show own_S p e below s₁ m 7 #[.val (.int p0), .val (.int p1), .val (.int p2), .val (.int p3), .val (.int p4), .unset, .unset, .unset, .unset, .unset, .unset, .unset, .unset, .unset, .unset, .unset, .unset, .unset, .unset, .unset, .unset] [] _
      refine XS.iconst X0.here hx rfl (hb hby at_7) ?_
      show own_S p e below s₁ m 8 #[.val (.int p0), .val (.int p1), .val (.int p2), .val (.int p3), .val (.int p4), .unset, .unset, .unset, .unset, .unset, .unset, .unset, .unset, .unset, .unset, .unset, .unset, .unset, .unset, .unset, .unset] [(.int 1)] _
      refine XS.goto X0.here hx rfl (pc0 := 8) (pc' := 12) rfl (hb hby at_8) (by decide) (by decide) ?_
      show own_S p e below s₁ m 12 #[.val (.int p0), .val (.int p1), .val (.int p2), .val (.int p3), .val (.int p4), .unset, .unset, .unset, .unset, .unset, .unset, .unset, .unset, .unset, .unset, .unset, .unset, .unset, .unset, .unset, .unset] [(.int 1)] _
      refine XS.istore X0.here hx rfl (hb hby at_12) rfl (l' := #[.val (.int p0), .val (.int p1), .val (.int p2), .val (.int p3), .val (.int p4), .val (.int 1), .unset, .unset, .unset, .unset, .unset, .unset, .unset, .unset, .unset, .unset, .unset, .unset, .unset, .unset, .unset]) rfl ?_
      show own_S p e below s₁ m 14 #[.val (.int p0), .val (.int p1), .val (.int p2), .val (.int p3), .val (.int p4), .val (.int 1), .unset, .unset, .unset, .unset, .unset, .unset, .unset, .unset, .unset, .unset, .unset, .unset, .unset, .unset, .unset] [] _
      refine XS.iload X0.here hx rfl (hb hby at_14) rfl ?_
      show own_S p e below s₁ m 16 #[.val (.int p0), .val (.int p1), .val (.int p2), .val (.int p3), .val (.int p4), .val (.int 1), .unset, .unset, .unset, .unset, .unset, .unset, .unset, .unset, .unset, .unset, .unset, .unset, .unset, .unset, .unset] [(.int p4)] _
      refine XS.iconst X0.here hx rfl (hb hby at_16) ?_
      show own_S p e below s₁ m 17 #[.val (.int p0), .val (.int p1), .val (.int p2), .val (.int p3), .val (.int p4), .val (.int 1), .unset, .unset, .unset, .unset, .unset, .unset, .unset, .unset, .unset, .unset, .unset, .unset, .unset, .unset, .unset] [(.int 2), (.int p4)] _
      refine XS.iand X0.here hx rfl (hb hby at_17) rfl ?_
      exact kt
    by_cases hswap : (p4 &&& (2 : Int32)) = (0 : Int32)
    · skip
      obtain ⟨T136, h136, X136, e136, E136, A136, D136, -, st136⟩ := newO X0 hx hZ hown (own_w hw 0 rfl) (own_w hw 1 rfl) (own_w hw 2 rfl) e0 (g := (mkF m 76 #[.val (.int p0), .val (.int p1), .val (.int p2), .val (.int p3), .val (.int p4), .val (.int 1), .val (.int 0), .val (.double (FP.i2d p0)), .second, .val (.double (FP.i2d p1)), .second, .val (.double (FP.i2d p0)), .second, .val (.double (FP.i2d p1)), .second, .unset, .unset, .unset, .unset, .unset, .unset] [])) rfl (hb hby at_76) (by decide) (by decide)
      obtain ⟨b136, g136⟩ : ∃ z, z = h0.size := ⟨_, rfl⟩
      rw [← g136] at A136 D136 st136
      have g_b136 : n0 ≤ b136 := Nat.le_trans Z0 (Nat.le_of_eq g136.symm)
      have ZZ137 : n0 ≤ h136.size := Nat.le_trans Z0 E136.1
      have F_x_b136 : Fld Z h136 b136 "com/example/minisum/minisum/Point" "x" "D" (.double 0) := D136 (Or.inr (own_w hw 19 rfl)) (ty := .double) (by decide)
      have F_y_b136 : Fld Z h136 b136 "com/example/minisum/minisum/Point" "y" "D" (.double 0) := D136 (Or.inr (own_w hw 21 rfl)) (ty := .double) (by decide)
      obtain ⟨_, _, ⟨T138, L138, k138, n138⟩, -, X138, ⟨Lc138, hQ138, l138, y138, z138⟩, st138⟩ := X136.specialBack hx (y := (⟨"com/example/minisum/minisum/Point", "<init>", "(DD)V"⟩ : MethodName)) rfl hown (mvT hZ (own_w hw 3 rfl)) (mvT hZ (own_w hw 4 rfl)) (mvT hZ (own_w hw 5 rfl)) (by decide) (backOf (W := 1) (rmm1 l Z a0 hw [] b136 (FP.i2d p0) (FP.i2d p1) (.double 0) (.double 0) h136 n0 ZZ137 F_x_b136 F_y_b136 A136 g_b136 (i2d_fin _) (i2d_fin _)) hZ (own_w hw 5 rfl) (own_w hw 2 rfl) (by decide) (by decide)) (g := (mkF m 84 #[.val (.int p0), .val (.int p1), .val (.int p2), .val (.int p3), .val (.int p4), .val (.int 1), .val (.int 0), .val (.double (FP.i2d p0)), .second, .val (.double (FP.i2d p1)), .second, .val (.double (FP.i2d p0)), .second, .val (.double (FP.i2d p1)), .second, .unset, .unset, .unset, .unset, .unset, .unset] [(.double (FP.i2d p1)), (.double (FP.i2d p0)), (.ref b136), (.ref b136)])) rfl (by rw [hml]; rfl) (Steps.refl _) (a := b136) (argsL := [(.double (FP.i2d p0)), (.double (FP.i2d p1))]) (rest := [(.ref b136)]) (lenOf pd6 rfl) rfl (by show 2 * 0 + _ ≤ _; exact Nat.le_of_eq rfl) (hb hby at_84) (fun _ _ => ⟨rfl, e136, (by decide : 1 + 0 ≤ _), (by decide : 2 + 0 ≤ _)⟩)
      dsimp only [Pt.U, Pt.locs, Pt.cells, Pt.slots] at X138 l138 y138 z138 st138 hQ138
      subst l138 y138 z138
      obtain ⟨rfl, Nq138, P138_0, P138_1, P138_2, P138_3⟩ := hQ138
      have N138 := Fr.app N0 Nq138
      have ZZ139 : n0 ≤ T138.heap.size := Nat.le_trans ZZ137 P138_0.1
      obtain ⟨T140, h140, X140, e140, E140, A140, D140, -, st140⟩ := newO X138 hx hZ hown (own_w hw 0 rfl) (own_w hw 1 rfl) (own_w hw 2 rfl) rfl (g := (mkF m 89 #[.val (.int p0), .val (.int p1), .val (.int p2), .val (.int p3), .val (.int p4), .val (.int 1), .val (.int 0), .val (.double (FP.i2d p0)), .second, .val (.double (FP.i2d p1)), .second, .val (.double (FP.i2d p0)), .second, .val (.double (FP.i2d p1)), .second, .val (.ref b136), .unset, .unset, .unset, .unset, .unset] [])) rfl (hb hby at_89) (by decide) (by decide)
      obtain ⟨b140, g140⟩ : ∃ z, z = T138.heap.size := ⟨_, rfl⟩
      rw [← g140] at A140 D140 st140
      have g_b140 : n0 ≤ b140 := Nat.le_trans ZZ139 (Nat.le_of_eq g140.symm)
      have ZZ141 : n0 ≤ h140.size := Nat.le_trans ZZ139 E140.1
      have F_x_b140 : Fld Z h140 b140 "com/example/minisum/minisum/Point" "x" "D" (.double 0) := D140 (Or.inr (own_w hw 19 rfl)) (ty := .double) (by decide)
      have F_y_b140 : Fld Z h140 b140 "com/example/minisum/minisum/Point" "y" "D" (.double 0) := D140 (Or.inr (own_w hw 21 rfl)) (ty := .double) (by decide)
      obtain ⟨_, _, ⟨T142, L142, k142, n142⟩, -, X142, ⟨Lc142, hQ142, l142, y142, z142⟩, st142⟩ := X140.specialBack hx (y := (⟨"com/example/minisum/minisum/Point", "<init>", "(DD)V"⟩ : MethodName)) rfl hown (mvT hZ (own_w hw 3 rfl)) (mvT hZ (own_w hw 4 rfl)) (mvT hZ (own_w hw 5 rfl)) (by decide) (backOf (W := 1) (rmm1 l Z a0 hw [] b140 (FP.i2d p0) (FP.i2d p1) (.double 0) (.double 0) h140 n0 ZZ141 F_x_b140 F_y_b140 A140 g_b140 (i2d_fin _) (i2d_fin _)) hZ (own_w hw 5 rfl) (own_w hw 2 rfl) (by decide) (by decide)) (g := (mkF m 97 #[.val (.int p0), .val (.int p1), .val (.int p2), .val (.int p3), .val (.int p4), .val (.int 1), .val (.int 0), .val (.double (FP.i2d p0)), .second, .val (.double (FP.i2d p1)), .second, .val (.double (FP.i2d p0)), .second, .val (.double (FP.i2d p1)), .second, .val (.ref b136), .unset, .unset, .unset, .unset, .unset] [(.double (FP.i2d p1)), (.double (FP.i2d p0)), (.ref b140), (.ref b140)])) rfl (by rw [hml]; rfl) (Steps.refl _) (a := b140) (argsL := [(.double (FP.i2d p0)), (.double (FP.i2d p1))]) (rest := [(.ref b140)]) (lenOf pd6 rfl) rfl (by show 2 * 0 + _ ≤ _; exact Nat.le_of_eq rfl) (hb hby at_97) (fun _ _ => ⟨rfl, e140, (by decide : 2 + 0 ≤ _), (by decide : 4 + 0 ≤ _)⟩)
      dsimp only [Pt.U, Pt.locs, Pt.cells, Pt.slots] at X142 l142 y142 z142 st142 hQ142
      subst l142 y142 z142
      obtain ⟨rfl, Nq142, P142_0, P142_1, P142_2, P142_3⟩ := hQ142
      have N142 := Fr.app N138 Nq142
      have ZZ143 : n0 ≤ T142.heap.size := Nat.le_trans ZZ141 P142_0.1
      have Fc144 := ((P138_2.ext E140).keep P142_0 (ninS (Nat.ne_of_lt (Nat.lt_of_lt_of_le P138_1.lt (Nat.le_of_eq g140.symm))) nin0))
      have Fc145 := ((P138_3.ext E140).keep P142_0 (ninS (Nat.ne_of_lt (Nat.lt_of_lt_of_le P138_1.lt (Nat.le_of_eq g140.symm))) nin0))
      have Fc147 := ((P138_1.ext E140).keep P142_0)
      obtain ⟨cq146, kq146, q146a, q146b, q146c⟩ := isOf hZ rfl Fc147
      obtain ⟨_, _, ⟨T146, L146, k146, n146⟩, -, X146, ⟨Lc146, hQ146, l146, y146, z146⟩, st146⟩ := X142.virtualBack hx (y := (⟨"com/example/minisum/minisum/Point", "hashCode", "()I"⟩ : MethodName)) (z := (⟨"com/example/minisum/minisum/Point", "hashCode", "()I"⟩ : MethodName)) hown (mvT hZ (own_w hw 22 rfl)) (mvT hZ (own_w hw 23 rfl)) (notFace_of_selects (args := #[]) (mvT hZ (own_w hw 25 rfl))) (mvT hZ (own_w hw 25 rfl)) (mvT hZ (own_w hw 24 rfl)) (by decide) (backOf (W := 0) (rmm5 l Z a0 hw [] b136 (FP.i2d p0) (FP.i2d p1) T142.heap n0 ZZ143 Fc144 Fc145 ((i2d_fin _).noNaN) ((i2d_fin _).noNaN)) hZ (own_w hw 26 rfl) (own_w hw 2 rfl) (by decide) (by decide)) q146a q146c (g := (mkF m 104 #[.val (.int p0), .val (.int p1), .val (.int p2), .val (.int p3), .val (.int p4), .val (.int 1), .val (.int 0), .val (.double (FP.i2d p0)), .second, .val (.double (FP.i2d p1)), .second, .val (.double (FP.i2d p0)), .second, .val (.double (FP.i2d p1)), .second, .val (.ref b136), .val (.ref b140), .unset, .unset, .unset, .unset] [(.ref b136)])) rfl (by rw [hml]; rfl) (Steps.refl _) (argsL := []) (rest := []) (lenOf pd7 rfl) rfl (by show 2 * 0 + _ ≤ _; exact Nat.le_of_eq rfl) (hb hby at_104) (fun _ _ => ⟨rfl, rfl, (by decide : 2 + 0 ≤ _), (by decide : 4 + 0 ≤ _)⟩)
      dsimp only [Pt.U, Pt.locs, Pt.cells, Pt.slots] at X146 l146 y146 z146 st146 hQ146
      subst l146 y146 z146
      obtain ⟨rfl, Nq146, P146_0⟩ := hQ146
      have N146 := Fr.app N142 Nq146
      obtain ⟨cq148, kq148, q148a, q148b, q148c⟩ := isOf hZ P146_0 Fc147
      obtain ⟨_, _, ⟨T148, L148, k148, n148⟩, -, X148, ⟨Lc148, hQ148, l148, y148, z148⟩, st148⟩ := X146.virtualBack hx (y := (⟨"com/example/minisum/minisum/Point", "hashCode", "()I"⟩ : MethodName)) (z := (⟨"com/example/minisum/minisum/Point", "hashCode", "()I"⟩ : MethodName)) hown (mvT hZ (own_w hw 22 rfl)) (mvT hZ (own_w hw 23 rfl)) (notFace_of_selects (args := #[]) (mvT hZ (own_w hw 25 rfl))) (mvT hZ (own_w hw 25 rfl)) (mvT hZ (own_w hw 24 rfl)) (by decide) (backOf (W := 0) (rmm5 l Z a0 hw [] b136 (FP.i2d p0) (FP.i2d p1) T142.heap n0 ZZ143 Fc144 Fc145 ((i2d_fin _).noNaN) ((i2d_fin _).noNaN)) hZ (own_w hw 26 rfl) (own_w hw 2 rfl) (by decide) (by decide)) q148a q148c (g := (mkF m 111 #[.val (.int p0), .val (.int p1), .val (.int p2), .val (.int p3), .val (.int p4), .val (.int 1), .val (.int 0), .val (.double (FP.i2d p0)), .second, .val (.double (FP.i2d p1)), .second, .val (.double (FP.i2d p0)), .second, .val (.double (FP.i2d p1)), .second, .val (.ref b136), .val (.ref b140), .val (.int (own_hash (FP.i2d p0) (FP.i2d p1))), .unset, .unset, .unset] [(.ref b136)])) rfl (by rw [hml]; rfl) (Steps.refl _) (argsL := []) (rest := []) (lenOf pd7 rfl) rfl (by show 2 * 0 + _ ≤ _; exact Nat.le_of_eq rfl) (hb hby at_111) (fun _ _ => ⟨rfl, P146_0, (by decide : 2 + 0 ≤ _), (by decide : 4 + 0 ≤ _)⟩)
      dsimp only [Pt.U, Pt.locs, Pt.cells, Pt.slots] at X148 l148 y148 z148 st148 hQ148
      subst l148 y148 z148
      obtain ⟨rfl, Nq148, P148_0⟩ := hQ148
      have N148 := Fr.app N146 Nq148
      obtain ⟨cq149, kq149, q149a, q149b, q149c⟩ := isOf hZ P148_0 P142_1
      obtain ⟨_, _, ⟨T149, L149, k149, n149⟩, -, X149, ⟨Lc149, hQ149, l149, y149, z149⟩, st149⟩ := X148.virtualBack hx (y := (⟨"com/example/minisum/minisum/Point", "hashCode", "()I"⟩ : MethodName)) (z := (⟨"com/example/minisum/minisum/Point", "hashCode", "()I"⟩ : MethodName)) hown (mvT hZ (own_w hw 22 rfl)) (mvT hZ (own_w hw 23 rfl)) (notFace_of_selects (args := #[]) (mvT hZ (own_w hw 25 rfl))) (mvT hZ (own_w hw 25 rfl)) (mvT hZ (own_w hw 24 rfl)) (by decide) (backOf (W := 0) (rmm5 l Z a0 hw [] b140 (FP.i2d p0) (FP.i2d p1) T142.heap n0 ZZ143 P142_2 P142_3 ((i2d_fin _).noNaN) ((i2d_fin _).noNaN)) hZ (own_w hw 26 rfl) (own_w hw 2 rfl) (by decide) (by decide)) q149a q149c (g := (mkF m 118 #[.val (.int p0), .val (.int p1), .val (.int p2), .val (.int p3), .val (.int p4), .val (.int 1), .val (.int 0), .val (.double (FP.i2d p0)), .second, .val (.double (FP.i2d p1)), .second, .val (.double (FP.i2d p0)), .second, .val (.double (FP.i2d p1)), .second, .val (.ref b136), .val (.ref b140), .val (.int (own_hash (FP.i2d p0) (FP.i2d p1))), .val (.int (own_hash (FP.i2d p0) (FP.i2d p1))), .unset, .unset] [(.ref b140)])) rfl (by rw [hml]; rfl) (Steps.refl _) (argsL := []) (rest := []) (lenOf pd7 rfl) rfl (by show 2 * 0 + _ ≤ _; exact Nat.le_of_eq rfl) (hb hby at_118) (fun _ _ => ⟨rfl, P148_0, (by decide : 2 + 0 ≤ _), (by decide : 4 + 0 ≤ _)⟩)
      dsimp only [Pt.U, Pt.locs, Pt.cells, Pt.slots] at X149 l149 y149 z149 st149 hQ149
      subst l149 y149 z149
      obtain ⟨rfl, Nq149, P149_0⟩ := hQ149
      have N149 := Fr.app N148 Nq149
      obtain ⟨cq150, kq150, q150a, q150b, q150c⟩ := isOf hZ P149_0 Fc147
      obtain ⟨_, _, ⟨T150, L150, k150, n150⟩, -, X150, ⟨Lc150, hQ150, l150, y150, z150⟩, st150⟩ := X149.virtualBack hx (y := (⟨"com/example/minisum/minisum/Point", "equals", "(Ljava/lang/Object;)Z"⟩ : MethodName)) (z := (⟨"com/example/minisum/minisum/Point", "equals", "(Ljava/lang/Object;)Z"⟩ : MethodName)) hown (mvT hZ (own_w hw 43 rfl)) (mvT hZ (own_w hw 44 rfl)) (notFace_of_selects (args := #[]) (mvT hZ (own_w hw 46 rfl))) (mvT hZ (own_w hw 46 rfl)) (mvT hZ (own_w hw 45 rfl)) (by decide) (backOf (W := 0) (rmm10 l Z a0 hw [] b136 b140 (FP.i2d p0) (FP.i2d p1) (FP.i2d p0) (FP.i2d p1) T142.heap n0 ZZ143 Fc144 Fc145 P142_2 P142_3 P142_1 ((i2d_fin _).noNaN) ((i2d_fin _).noNaN) ((i2d_fin _).noNaN) ((i2d_fin _).noNaN)) hZ (own_w hw 47 rfl) (own_w hw 2 rfl) (by decide) (by decide)) q150a q150c (g := (mkF m 127 #[.val (.int p0), .val (.int p1), .val (.int p2), .val (.int p3), .val (.int p4), .val (.int 1), .val (.int 0), .val (.double (FP.i2d p0)), .second, .val (.double (FP.i2d p1)), .second, .val (.double (FP.i2d p0)), .second, .val (.double (FP.i2d p1)), .second, .val (.ref b136), .val (.ref b140), .val (.int (own_hash (FP.i2d p0) (FP.i2d p1))), .val (.int (own_hash (FP.i2d p0) (FP.i2d p1))), .val (.int (own_hash (FP.i2d p0) (FP.i2d p1))), .unset] [(.ref b140), (.ref b136)])) rfl (by rw [hml]; rfl) (Steps.refl _) (argsL := [(.ref b140)]) (rest := []) (lenOf pd8 rfl) rfl (by show 2 * 0 + _ ≤ _; exact Nat.le_of_eq rfl) (hb hby at_127) (fun _ _ => ⟨rfl, P149_0, (by decide : 2 + 0 ≤ _), (by decide : 4 + 0 ≤ _)⟩)
      dsimp only [Pt.U, Pt.locs, Pt.cells, Pt.slots] at X150 l150 y150 z150 st150 hQ150
      subst l150 y150 z150
      obtain ⟨rfl, Nq150, P150_0⟩ := hQ150
      have N150 := Fr.app N149 Nq150
      obtain ⟨fs, hr, hrun, hended, hW, hsame⟩ := X150.leave (v := some (.int 1)) (fun h => by rw [Bd.returns] at h; cases h)
      refine ⟨_, _, pre0 _ (pre135 _ ?_), hrun, hended, _, _, rfl, ?_, ⟨_, rfl⟩, hW, hsame.mono (by decide) (by decide)⟩
      · show own_S p e below s₁ m 18 #[.val (.int p0), .val (.int p1), .val (.int p2), .val (.int p3), .val (.int p4), .val (.int 1), .unset, .unset, .unset, .unset, .unset, .unset, .unset, .unset, .unset, .unset, .unset, .unset, .unset, .unset, .unset] [(.int (p4 &&& (2 : Int32)))] _
        refine XS.ifYes X0.here hx rfl (pc0 := 18) (pc' := 25) rfl (hb hby at_18) rfl ((if0 _ _).trans (teq (hswap : (p4 &&& (2 : Int32)) = (0 : Int32))).1) (by decide) (by decide) ?_
        show own_S p e below s₁ m 25 #[.val (.int p0), .val (.int p1), .val (.int p2), .val (.int p3), .val (.int p4), .val (.int 1), .unset, .unset, .unset, .unset, .unset, .unset, .unset, .unset, .unset, .unset, .unset, .unset, .unset, .unset, .unset] [] _
        refine XS.iconst X0.here hx rfl (hb hby at_25) ?_
        show own_S p e below s₁ m 26 #[.val (.int p0), .val (.int p1), .val (.int p2), .val (.int p3), .val (.int p4), .val (.int 1), .unset, .unset, .unset, .unset, .unset, .unset, .unset, .unset, .unset, .unset, .unset, .unset, .unset, .unset, .unset] [(.int 0)] _
        refine XS.istore X0.here hx rfl (hb hby at_26) rfl (l' := #[.val (.int p0), .val (.int p1), .val (.int p2), .val (.int p3), .val (.int p4), .val (.int 1), .val (.int 0), .unset, .unset, .unset, .unset, .unset, .unset, .unset, .unset, .unset, .unset, .unset, .unset, .unset, .unset]) rfl ?_
        show own_S p e below s₁ m 28 #[.val (.int p0), .val (.int p1), .val (.int p2), .val (.int p3), .val (.int p4), .val (.int 1), .val (.int 0), .unset, .unset, .unset, .unset, .unset, .unset, .unset, .unset, .unset, .unset, .unset, .unset, .unset, .unset] [] _
        refine XS.iloadN X0.here hx rfl (hb hby at_28) rfl ?_
        show own_S p e below s₁ m 29 #[.val (.int p0), .val (.int p1), .val (.int p2), .val (.int p3), .val (.int p4), .val (.int 1), .val (.int 0), .unset, .unset, .unset, .unset, .unset, .unset, .unset, .unset, .unset, .unset, .unset, .unset, .unset, .unset] [(.int p0)] _
        refine XS.i2dS X0.here hx rfl (v := (FP.i2d p0)) (hb hby at_29) rfl rfl ?_
        show own_S p e below s₁ m 30 #[.val (.int p0), .val (.int p1), .val (.int p2), .val (.int p3), .val (.int p4), .val (.int 1), .val (.int 0), .unset, .unset, .unset, .unset, .unset, .unset, .unset, .unset, .unset, .unset, .unset, .unset, .unset, .unset] [(.double (FP.i2d p0))] _
        refine XS.dstore X0.here hx rfl (hb hby at_30) rfl (l' := #[.val (.int p0), .val (.int p1), .val (.int p2), .val (.int p3), .val (.int p4), .val (.int 1), .val (.int 0), .val (.double (FP.i2d p0)), .second, .unset, .unset, .unset, .unset, .unset, .unset, .unset, .unset, .unset, .unset, .unset, .unset]) rfl ?_
        show own_S p e below s₁ m 32 #[.val (.int p0), .val (.int p1), .val (.int p2), .val (.int p3), .val (.int p4), .val (.int 1), .val (.int 0), .val (.double (FP.i2d p0)), .second, .unset, .unset, .unset, .unset, .unset, .unset, .unset, .unset, .unset, .unset, .unset, .unset] [] _
        refine XS.iloadN X0.here hx rfl (hb hby at_32) rfl ?_
        show own_S p e below s₁ m 33 #[.val (.int p0), .val (.int p1), .val (.int p2), .val (.int p3), .val (.int p4), .val (.int 1), .val (.int 0), .val (.double (FP.i2d p0)), .second, .unset, .unset, .unset, .unset, .unset, .unset, .unset, .unset, .unset, .unset, .unset, .unset] [(.int p1)] _
        refine XS.i2dS X0.here hx rfl (v := (FP.i2d p1)) (hb hby at_33) rfl rfl ?_
        show own_S p e below s₁ m 34 #[.val (.int p0), .val (.int p1), .val (.int p2), .val (.int p3), .val (.int p4), .val (.int 1), .val (.int 0), .val (.double (FP.i2d p0)), .second, .unset, .unset, .unset, .unset, .unset, .unset, .unset, .unset, .unset, .unset, .unset, .unset] [(.double (FP.i2d p1))] _
        refine XS.dstore X0.here hx rfl (hb hby at_34) rfl (l' := #[.val (.int p0), .val (.int p1), .val (.int p2), .val (.int p3), .val (.int p4), .val (.int 1), .val (.int 0), .val (.double (FP.i2d p0)), .second, .val (.double (FP.i2d p1)), .second, .unset, .unset, .unset, .unset, .unset, .unset, .unset, .unset, .unset, .unset]) rfl ?_
        show own_S p e below s₁ m 36 #[.val (.int p0), .val (.int p1), .val (.int p2), .val (.int p3), .val (.int p4), .val (.int 1), .val (.int 0), .val (.double (FP.i2d p0)), .second, .val (.double (FP.i2d p1)), .second, .unset, .unset, .unset, .unset, .unset, .unset, .unset, .unset, .unset, .unset] [] _
        refine XS.iload X0.here hx rfl (hb hby at_36) rfl ?_
        show own_S p e below s₁ m 38 #[.val (.int p0), .val (.int p1), .val (.int p2), .val (.int p3), .val (.int p4), .val (.int 1), .val (.int 0), .val (.double (FP.i2d p0)), .second, .val (.double (FP.i2d p1)), .second, .unset, .unset, .unset, .unset, .unset, .unset, .unset, .unset, .unset, .unset] [(.int 1)] _
        refine XS.ifNo X0.here hx rfl (hb hby at_38) rfl ((if0 _ _).trans (feq (by decide : ¬ ((1 : Int32) = (0 : Int32)))).1) ?_
        show own_S p e below s₁ m 41 #[.val (.int p0), .val (.int p1), .val (.int p2), .val (.int p3), .val (.int p4), .val (.int 1), .val (.int 0), .val (.double (FP.i2d p0)), .second, .val (.double (FP.i2d p1)), .second, .unset, .unset, .unset, .unset, .unset, .unset, .unset, .unset, .unset, .unset] [] _
        refine XS.iloadN X0.here hx rfl (hb hby at_41) rfl ?_
        show own_S p e below s₁ m 42 #[.val (.int p0), .val (.int p1), .val (.int p2), .val (.int p3), .val (.int p4), .val (.int 1), .val (.int 0), .val (.double (FP.i2d p0)), .second, .val (.double (FP.i2d p1)), .second, .unset, .unset, .unset, .unset, .unset, .unset, .unset, .unset, .unset, .unset] [(.int p0)] _
        refine XS.i2dS X0.here hx rfl (v := (FP.i2d p0)) (hb hby at_42) rfl rfl ?_
        show own_S p e below s₁ m 43 #[.val (.int p0), .val (.int p1), .val (.int p2), .val (.int p3), .val (.int p4), .val (.int 1), .val (.int 0), .val (.double (FP.i2d p0)), .second, .val (.double (FP.i2d p1)), .second, .unset, .unset, .unset, .unset, .unset, .unset, .unset, .unset, .unset, .unset] [(.double (FP.i2d p0))] _
        refine XS.dstore X0.here hx rfl (hb hby at_43) rfl (l' := #[.val (.int p0), .val (.int p1), .val (.int p2), .val (.int p3), .val (.int p4), .val (.int 1), .val (.int 0), .val (.double (FP.i2d p0)), .second, .val (.double (FP.i2d p1)), .second, .val (.double (FP.i2d p0)), .second, .unset, .unset, .unset, .unset, .unset, .unset, .unset, .unset]) rfl ?_
        show own_S p e below s₁ m 45 #[.val (.int p0), .val (.int p1), .val (.int p2), .val (.int p3), .val (.int p4), .val (.int 1), .val (.int 0), .val (.double (FP.i2d p0)), .second, .val (.double (FP.i2d p1)), .second, .val (.double (FP.i2d p0)), .second, .unset, .unset, .unset, .unset, .unset, .unset, .unset, .unset] [] _
        refine XS.iloadN X0.here hx rfl (hb hby at_45) rfl ?_
        show own_S p e below s₁ m 46 #[.val (.int p0), .val (.int p1), .val (.int p2), .val (.int p3), .val (.int p4), .val (.int 1), .val (.int 0), .val (.double (FP.i2d p0)), .second, .val (.double (FP.i2d p1)), .second, .val (.double (FP.i2d p0)), .second, .unset, .unset, .unset, .unset, .unset, .unset, .unset, .unset] [(.int p1)] _
        refine XS.i2dS X0.here hx rfl (v := (FP.i2d p1)) (hb hby at_46) rfl rfl ?_
        show own_S p e below s₁ m 47 #[.val (.int p0), .val (.int p1), .val (.int p2), .val (.int p3), .val (.int p4), .val (.int 1), .val (.int 0), .val (.double (FP.i2d p0)), .second, .val (.double (FP.i2d p1)), .second, .val (.double (FP.i2d p0)), .second, .unset, .unset, .unset, .unset, .unset, .unset, .unset, .unset] [(.double (FP.i2d p1))] _
        refine XS.dstore X0.here hx rfl (hb hby at_47) rfl (l' := #[.val (.int p0), .val (.int p1), .val (.int p2), .val (.int p3), .val (.int p4), .val (.int 1), .val (.int 0), .val (.double (FP.i2d p0)), .second, .val (.double (FP.i2d p1)), .second, .val (.double (FP.i2d p0)), .second, .val (.double (FP.i2d p1)), .second, .unset, .unset, .unset, .unset, .unset, .unset]) rfl ?_
        show own_S p e below s₁ m 49 #[.val (.int p0), .val (.int p1), .val (.int p2), .val (.int p3), .val (.int p4), .val (.int 1), .val (.int 0), .val (.double (FP.i2d p0)), .second, .val (.double (FP.i2d p1)), .second, .val (.double (FP.i2d p0)), .second, .val (.double (FP.i2d p1)), .second, .unset, .unset, .unset, .unset, .unset, .unset] [] _
        refine XS.goto X0.here hx rfl (pc0 := 49) (pc' := 76) rfl (hb hby at_49) (by decide) (by decide) ?_
        show own_S p e below s₁ m 76 #[.val (.int p0), .val (.int p1), .val (.int p2), .val (.int p3), .val (.int p4), .val (.int 1), .val (.int 0), .val (.double (FP.i2d p0)), .second, .val (.double (FP.i2d p1)), .second, .val (.double (FP.i2d p0)), .second, .val (.double (FP.i2d p1)), .second, .unset, .unset, .unset, .unset, .unset, .unset] [] _
        refine st136 _ ?_
        show own_S p e below T136 m 79 #[.val (.int p0), .val (.int p1), .val (.int p2), .val (.int p3), .val (.int p4), .val (.int 1), .val (.int 0), .val (.double (FP.i2d p0)), .second, .val (.double (FP.i2d p1)), .second, .val (.double (FP.i2d p0)), .second, .val (.double (FP.i2d p1)), .second, .unset, .unset, .unset, .unset, .unset, .unset] [(.ref b136)] _
        refine XS.dup X136.here hx rfl (hb hby at_79) rfl rfl ?_
        show own_S p e below T136 m 80 #[.val (.int p0), .val (.int p1), .val (.int p2), .val (.int p3), .val (.int p4), .val (.int 1), .val (.int 0), .val (.double (FP.i2d p0)), .second, .val (.double (FP.i2d p1)), .second, .val (.double (FP.i2d p0)), .second, .val (.double (FP.i2d p1)), .second, .unset, .unset, .unset, .unset, .unset, .unset] [(.ref b136), (.ref b136)] _
        refine XS.dload X136.here hx rfl (hb hby at_80) rfl ?_
        show own_S p e below T136 m 82 #[.val (.int p0), .val (.int p1), .val (.int p2), .val (.int p3), .val (.int p4), .val (.int 1), .val (.int 0), .val (.double (FP.i2d p0)), .second, .val (.double (FP.i2d p1)), .second, .val (.double (FP.i2d p0)), .second, .val (.double (FP.i2d p1)), .second, .unset, .unset, .unset, .unset, .unset, .unset] [(.double (FP.i2d p0)), (.ref b136), (.ref b136)] _
        refine XS.dload X136.here hx rfl (hb hby at_82) rfl ?_
        show own_S p e below T136 m 84 #[.val (.int p0), .val (.int p1), .val (.int p2), .val (.int p3), .val (.int p4), .val (.int 1), .val (.int 0), .val (.double (FP.i2d p0)), .second, .val (.double (FP.i2d p1)), .second, .val (.double (FP.i2d p0)), .second, .val (.double (FP.i2d p1)), .second, .unset, .unset, .unset, .unset, .unset, .unset] [(.double (FP.i2d p1)), (.double (FP.i2d p0)), (.ref b136), (.ref b136)] _
        refine st138.trans ?_
        show own_S p e below T138 m 87 #[.val (.int p0), .val (.int p1), .val (.int p2), .val (.int p3), .val (.int p4), .val (.int 1), .val (.int 0), .val (.double (FP.i2d p0)), .second, .val (.double (FP.i2d p1)), .second, .val (.double (FP.i2d p0)), .second, .val (.double (FP.i2d p1)), .second, .unset, .unset, .unset, .unset, .unset, .unset] [(.ref b136)] _
        refine XS.astore X138.here hx rfl (hb hby at_87) rfl rfl (l' := #[.val (.int p0), .val (.int p1), .val (.int p2), .val (.int p3), .val (.int p4), .val (.int 1), .val (.int 0), .val (.double (FP.i2d p0)), .second, .val (.double (FP.i2d p1)), .second, .val (.double (FP.i2d p0)), .second, .val (.double (FP.i2d p1)), .second, .val (.ref b136), .unset, .unset, .unset, .unset, .unset]) rfl ?_
        show own_S p e below T138 m 89 #[.val (.int p0), .val (.int p1), .val (.int p2), .val (.int p3), .val (.int p4), .val (.int 1), .val (.int 0), .val (.double (FP.i2d p0)), .second, .val (.double (FP.i2d p1)), .second, .val (.double (FP.i2d p0)), .second, .val (.double (FP.i2d p1)), .second, .val (.ref b136), .unset, .unset, .unset, .unset, .unset] [] _
        refine st140 _ ?_
        show own_S p e below T140 m 92 #[.val (.int p0), .val (.int p1), .val (.int p2), .val (.int p3), .val (.int p4), .val (.int 1), .val (.int 0), .val (.double (FP.i2d p0)), .second, .val (.double (FP.i2d p1)), .second, .val (.double (FP.i2d p0)), .second, .val (.double (FP.i2d p1)), .second, .val (.ref b136), .unset, .unset, .unset, .unset, .unset] [(.ref b140)] _
        refine XS.dup X140.here hx rfl (hb hby at_92) rfl rfl ?_
        show own_S p e below T140 m 93 #[.val (.int p0), .val (.int p1), .val (.int p2), .val (.int p3), .val (.int p4), .val (.int 1), .val (.int 0), .val (.double (FP.i2d p0)), .second, .val (.double (FP.i2d p1)), .second, .val (.double (FP.i2d p0)), .second, .val (.double (FP.i2d p1)), .second, .val (.ref b136), .unset, .unset, .unset, .unset, .unset] [(.ref b140), (.ref b140)] _
        refine XS.dload X140.here hx rfl (hb hby at_93) rfl ?_
        show own_S p e below T140 m 95 #[.val (.int p0), .val (.int p1), .val (.int p2), .val (.int p3), .val (.int p4), .val (.int 1), .val (.int 0), .val (.double (FP.i2d p0)), .second, .val (.double (FP.i2d p1)), .second, .val (.double (FP.i2d p0)), .second, .val (.double (FP.i2d p1)), .second, .val (.ref b136), .unset, .unset, .unset, .unset, .unset] [(.double (FP.i2d p0)), (.ref b140), (.ref b140)] _
        refine XS.dload X140.here hx rfl (hb hby at_95) rfl ?_
        show own_S p e below T140 m 97 #[.val (.int p0), .val (.int p1), .val (.int p2), .val (.int p3), .val (.int p4), .val (.int 1), .val (.int 0), .val (.double (FP.i2d p0)), .second, .val (.double (FP.i2d p1)), .second, .val (.double (FP.i2d p0)), .second, .val (.double (FP.i2d p1)), .second, .val (.ref b136), .unset, .unset, .unset, .unset, .unset] [(.double (FP.i2d p1)), (.double (FP.i2d p0)), (.ref b140), (.ref b140)] _
        refine st142.trans ?_
        show own_S p e below T142 m 100 #[.val (.int p0), .val (.int p1), .val (.int p2), .val (.int p3), .val (.int p4), .val (.int 1), .val (.int 0), .val (.double (FP.i2d p0)), .second, .val (.double (FP.i2d p1)), .second, .val (.double (FP.i2d p0)), .second, .val (.double (FP.i2d p1)), .second, .val (.ref b136), .unset, .unset, .unset, .unset, .unset] [(.ref b140)] _
        refine XS.astore X142.here hx rfl (hb hby at_100) rfl rfl (l' := #[.val (.int p0), .val (.int p1), .val (.int p2), .val (.int p3), .val (.int p4), .val (.int 1), .val (.int 0), .val (.double (FP.i2d p0)), .second, .val (.double (FP.i2d p1)), .second, .val (.double (FP.i2d p0)), .second, .val (.double (FP.i2d p1)), .second, .val (.ref b136), .val (.ref b140), .unset, .unset, .unset, .unset]) rfl ?_
        show own_S p e below T142 m 102 #[.val (.int p0), .val (.int p1), .val (.int p2), .val (.int p3), .val (.int p4), .val (.int 1), .val (.int 0), .val (.double (FP.i2d p0)), .second, .val (.double (FP.i2d p1)), .second, .val (.double (FP.i2d p0)), .second, .val (.double (FP.i2d p1)), .second, .val (.ref b136), .val (.ref b140), .unset, .unset, .unset, .unset] [] _
        refine XS.aload X142.here hx rfl (hb hby at_102) rfl rfl ?_
        show own_S p e below T142 m 104 #[.val (.int p0), .val (.int p1), .val (.int p2), .val (.int p3), .val (.int p4), .val (.int 1), .val (.int 0), .val (.double (FP.i2d p0)), .second, .val (.double (FP.i2d p1)), .second, .val (.double (FP.i2d p0)), .second, .val (.double (FP.i2d p1)), .second, .val (.ref b136), .val (.ref b140), .unset, .unset, .unset, .unset] [(.ref b136)] _
        refine st146.trans ?_
        show own_S p e below T146 m 107 #[.val (.int p0), .val (.int p1), .val (.int p2), .val (.int p3), .val (.int p4), .val (.int 1), .val (.int 0), .val (.double (FP.i2d p0)), .second, .val (.double (FP.i2d p1)), .second, .val (.double (FP.i2d p0)), .second, .val (.double (FP.i2d p1)), .second, .val (.ref b136), .val (.ref b140), .unset, .unset, .unset, .unset] [(.int (own_hash (FP.i2d p0) (FP.i2d p1)))] _
        refine XS.istore X146.here hx rfl (hb hby at_107) rfl (l' := #[.val (.int p0), .val (.int p1), .val (.int p2), .val (.int p3), .val (.int p4), .val (.int 1), .val (.int 0), .val (.double (FP.i2d p0)), .second, .val (.double (FP.i2d p1)), .second, .val (.double (FP.i2d p0)), .second, .val (.double (FP.i2d p1)), .second, .val (.ref b136), .val (.ref b140), .val (.int (own_hash (FP.i2d p0) (FP.i2d p1))), .unset, .unset, .unset]) rfl ?_
        show own_S p e below T146 m 109 #[.val (.int p0), .val (.int p1), .val (.int p2), .val (.int p3), .val (.int p4), .val (.int 1), .val (.int 0), .val (.double (FP.i2d p0)), .second, .val (.double (FP.i2d p1)), .second, .val (.double (FP.i2d p0)), .second, .val (.double (FP.i2d p1)), .second, .val (.ref b136), .val (.ref b140), .val (.int (own_hash (FP.i2d p0) (FP.i2d p1))), .unset, .unset, .unset] [] _
        refine XS.aload X146.here hx rfl (hb hby at_109) rfl rfl ?_
        show own_S p e below T146 m 111 #[.val (.int p0), .val (.int p1), .val (.int p2), .val (.int p3), .val (.int p4), .val (.int 1), .val (.int 0), .val (.double (FP.i2d p0)), .second, .val (.double (FP.i2d p1)), .second, .val (.double (FP.i2d p0)), .second, .val (.double (FP.i2d p1)), .second, .val (.ref b136), .val (.ref b140), .val (.int (own_hash (FP.i2d p0) (FP.i2d p1))), .unset, .unset, .unset] [(.ref b136)] _
        refine st148.trans ?_
        show own_S p e below T148 m 114 #[.val (.int p0), .val (.int p1), .val (.int p2), .val (.int p3), .val (.int p4), .val (.int 1), .val (.int 0), .val (.double (FP.i2d p0)), .second, .val (.double (FP.i2d p1)), .second, .val (.double (FP.i2d p0)), .second, .val (.double (FP.i2d p1)), .second, .val (.ref b136), .val (.ref b140), .val (.int (own_hash (FP.i2d p0) (FP.i2d p1))), .unset, .unset, .unset] [(.int (own_hash (FP.i2d p0) (FP.i2d p1)))] _
        refine XS.istore X148.here hx rfl (hb hby at_114) rfl (l' := #[.val (.int p0), .val (.int p1), .val (.int p2), .val (.int p3), .val (.int p4), .val (.int 1), .val (.int 0), .val (.double (FP.i2d p0)), .second, .val (.double (FP.i2d p1)), .second, .val (.double (FP.i2d p0)), .second, .val (.double (FP.i2d p1)), .second, .val (.ref b136), .val (.ref b140), .val (.int (own_hash (FP.i2d p0) (FP.i2d p1))), .val (.int (own_hash (FP.i2d p0) (FP.i2d p1))), .unset, .unset]) rfl ?_
        show own_S p e below T148 m 116 #[.val (.int p0), .val (.int p1), .val (.int p2), .val (.int p3), .val (.int p4), .val (.int 1), .val (.int 0), .val (.double (FP.i2d p0)), .second, .val (.double (FP.i2d p1)), .second, .val (.double (FP.i2d p0)), .second, .val (.double (FP.i2d p1)), .second, .val (.ref b136), .val (.ref b140), .val (.int (own_hash (FP.i2d p0) (FP.i2d p1))), .val (.int (own_hash (FP.i2d p0) (FP.i2d p1))), .unset, .unset] [] _
        refine XS.aload X148.here hx rfl (hb hby at_116) rfl rfl ?_
        show own_S p e below T148 m 118 #[.val (.int p0), .val (.int p1), .val (.int p2), .val (.int p3), .val (.int p4), .val (.int 1), .val (.int 0), .val (.double (FP.i2d p0)), .second, .val (.double (FP.i2d p1)), .second, .val (.double (FP.i2d p0)), .second, .val (.double (FP.i2d p1)), .second, .val (.ref b136), .val (.ref b140), .val (.int (own_hash (FP.i2d p0) (FP.i2d p1))), .val (.int (own_hash (FP.i2d p0) (FP.i2d p1))), .unset, .unset] [(.ref b140)] _
        refine st149.trans ?_
        show own_S p e below T149 m 121 #[.val (.int p0), .val (.int p1), .val (.int p2), .val (.int p3), .val (.int p4), .val (.int 1), .val (.int 0), .val (.double (FP.i2d p0)), .second, .val (.double (FP.i2d p1)), .second, .val (.double (FP.i2d p0)), .second, .val (.double (FP.i2d p1)), .second, .val (.ref b136), .val (.ref b140), .val (.int (own_hash (FP.i2d p0) (FP.i2d p1))), .val (.int (own_hash (FP.i2d p0) (FP.i2d p1))), .unset, .unset] [(.int (own_hash (FP.i2d p0) (FP.i2d p1)))] _
        refine XS.istore X149.here hx rfl (hb hby at_121) rfl (l' := #[.val (.int p0), .val (.int p1), .val (.int p2), .val (.int p3), .val (.int p4), .val (.int 1), .val (.int 0), .val (.double (FP.i2d p0)), .second, .val (.double (FP.i2d p1)), .second, .val (.double (FP.i2d p0)), .second, .val (.double (FP.i2d p1)), .second, .val (.ref b136), .val (.ref b140), .val (.int (own_hash (FP.i2d p0) (FP.i2d p1))), .val (.int (own_hash (FP.i2d p0) (FP.i2d p1))), .val (.int (own_hash (FP.i2d p0) (FP.i2d p1))), .unset]) rfl ?_
        show own_S p e below T149 m 123 #[.val (.int p0), .val (.int p1), .val (.int p2), .val (.int p3), .val (.int p4), .val (.int 1), .val (.int 0), .val (.double (FP.i2d p0)), .second, .val (.double (FP.i2d p1)), .second, .val (.double (FP.i2d p0)), .second, .val (.double (FP.i2d p1)), .second, .val (.ref b136), .val (.ref b140), .val (.int (own_hash (FP.i2d p0) (FP.i2d p1))), .val (.int (own_hash (FP.i2d p0) (FP.i2d p1))), .val (.int (own_hash (FP.i2d p0) (FP.i2d p1))), .unset] [] _
        refine XS.aload X149.here hx rfl (hb hby at_123) rfl rfl ?_
        show own_S p e below T149 m 125 #[.val (.int p0), .val (.int p1), .val (.int p2), .val (.int p3), .val (.int p4), .val (.int 1), .val (.int 0), .val (.double (FP.i2d p0)), .second, .val (.double (FP.i2d p1)), .second, .val (.double (FP.i2d p0)), .second, .val (.double (FP.i2d p1)), .second, .val (.ref b136), .val (.ref b140), .val (.int (own_hash (FP.i2d p0) (FP.i2d p1))), .val (.int (own_hash (FP.i2d p0) (FP.i2d p1))), .val (.int (own_hash (FP.i2d p0) (FP.i2d p1))), .unset] [(.ref b136)] _
        refine XS.aload X149.here hx rfl (hb hby at_125) rfl rfl ?_
        show own_S p e below T149 m 127 #[.val (.int p0), .val (.int p1), .val (.int p2), .val (.int p3), .val (.int p4), .val (.int 1), .val (.int 0), .val (.double (FP.i2d p0)), .second, .val (.double (FP.i2d p1)), .second, .val (.double (FP.i2d p0)), .second, .val (.double (FP.i2d p1)), .second, .val (.ref b136), .val (.ref b140), .val (.int (own_hash (FP.i2d p0) (FP.i2d p1))), .val (.int (own_hash (FP.i2d p0) (FP.i2d p1))), .val (.int (own_hash (FP.i2d p0) (FP.i2d p1))), .unset] [(.ref b140), (.ref b136)] _
        refine st150.trans ?_
        show own_S p e below T150 m 130 #[.val (.int p0), .val (.int p1), .val (.int p2), .val (.int p3), .val (.int p4), .val (.int 1), .val (.int 0), .val (.double (FP.i2d p0)), .second, .val (.double (FP.i2d p1)), .second, .val (.double (FP.i2d p0)), .second, .val (.double (FP.i2d p1)), .second, .val (.ref b136), .val (.ref b140), .val (.int (own_hash (FP.i2d p0) (FP.i2d p1))), .val (.int (own_hash (FP.i2d p0) (FP.i2d p1))), .val (.int (own_hash (FP.i2d p0) (FP.i2d p1))), .unset] [(.int (own_eq (FP.i2d p0) (FP.i2d p1) (FP.i2d p0) (FP.i2d p1)))] _
        refine reI (own_eqS ((i2d_fin _).noNaN) ((i2d_fin _).noNaN) : (own_eq (FP.i2d p0) (FP.i2d p1) (FP.i2d p0) (FP.i2d p1)) = (1 : Int32)) ?_
        show own_S p e below T150 m 130 #[.val (.int p0), .val (.int p1), .val (.int p2), .val (.int p3), .val (.int p4), .val (.int 1), .val (.int 0), .val (.double (FP.i2d p0)), .second, .val (.double (FP.i2d p1)), .second, .val (.double (FP.i2d p0)), .second, .val (.double (FP.i2d p1)), .second, .val (.ref b136), .val (.ref b140), .val (.int (own_hash (FP.i2d p0) (FP.i2d p1))), .val (.int (own_hash (FP.i2d p0) (FP.i2d p1))), .val (.int (own_hash (FP.i2d p0) (FP.i2d p1))), .unset] [(.int 1)] _
        refine XS.istore X150.here hx rfl (hb hby at_130) rfl (l' := #[.val (.int p0), .val (.int p1), .val (.int p2), .val (.int p3), .val (.int p4), .val (.int 1), .val (.int 0), .val (.double (FP.i2d p0)), .second, .val (.double (FP.i2d p1)), .second, .val (.double (FP.i2d p0)), .second, .val (.double (FP.i2d p1)), .second, .val (.ref b136), .val (.ref b140), .val (.int (own_hash (FP.i2d p0) (FP.i2d p1))), .val (.int (own_hash (FP.i2d p0) (FP.i2d p1))), .val (.int (own_hash (FP.i2d p0) (FP.i2d p1))), .val (.int 1)]) rfl ?_
        show own_S p e below T150 m 132 #[.val (.int p0), .val (.int p1), .val (.int p2), .val (.int p3), .val (.int p4), .val (.int 1), .val (.int 0), .val (.double (FP.i2d p0)), .second, .val (.double (FP.i2d p1)), .second, .val (.double (FP.i2d p0)), .second, .val (.double (FP.i2d p1)), .second, .val (.ref b136), .val (.ref b140), .val (.int (own_hash (FP.i2d p0) (FP.i2d p1))), .val (.int (own_hash (FP.i2d p0) (FP.i2d p1))), .val (.int (own_hash (FP.i2d p0) (FP.i2d p1))), .val (.int 1)] [] _
        refine XS.iload X150.here hx rfl (hb hby at_132) rfl ?_
        show own_S p e below T150 m 134 #[.val (.int p0), .val (.int p1), .val (.int p2), .val (.int p3), .val (.int p4), .val (.int 1), .val (.int 0), .val (.double (FP.i2d p0)), .second, .val (.double (FP.i2d p1)), .second, .val (.double (FP.i2d p0)), .second, .val (.double (FP.i2d p1)), .second, .val (.ref b136), .val (.ref b140), .val (.int (own_hash (FP.i2d p0) (FP.i2d p1))), .val (.int (own_hash (FP.i2d p0) (FP.i2d p1))), .val (.int (own_hash (FP.i2d p0) (FP.i2d p1))), .val (.int 1)] [(.int (own_hash (FP.i2d p0) (FP.i2d p1)))] _
        refine XS.iload X150.here hx rfl (hb hby at_134) rfl ?_
        show own_S p e below T150 m 136 #[.val (.int p0), .val (.int p1), .val (.int p2), .val (.int p3), .val (.int p4), .val (.int 1), .val (.int 0), .val (.double (FP.i2d p0)), .second, .val (.double (FP.i2d p1)), .second, .val (.double (FP.i2d p0)), .second, .val (.double (FP.i2d p1)), .second, .val (.ref b136), .val (.ref b140), .val (.int (own_hash (FP.i2d p0) (FP.i2d p1))), .val (.int (own_hash (FP.i2d p0) (FP.i2d p1))), .val (.int (own_hash (FP.i2d p0) (FP.i2d p1))), .val (.int 1)] [(.int (own_hash (FP.i2d p0) (FP.i2d p1))), (.int (own_hash (FP.i2d p0) (FP.i2d p1)))] _
        refine XS.icmpYes X150.here hx rfl (pc0 := 136) (pc' := 141) rfl (hb hby at_136) rfl (teq (rfl : (own_hash (FP.i2d p0) (FP.i2d p1)) = (own_hash (FP.i2d p0) (FP.i2d p1)))).1 (by decide) (by decide) ?_
        show own_S p e below T150 m 141 #[.val (.int p0), .val (.int p1), .val (.int p2), .val (.int p3), .val (.int p4), .val (.int 1), .val (.int 0), .val (.double (FP.i2d p0)), .second, .val (.double (FP.i2d p1)), .second, .val (.double (FP.i2d p0)), .second, .val (.double (FP.i2d p1)), .second, .val (.ref b136), .val (.ref b140), .val (.int (own_hash (FP.i2d p0) (FP.i2d p1))), .val (.int (own_hash (FP.i2d p0) (FP.i2d p1))), .val (.int (own_hash (FP.i2d p0) (FP.i2d p1))), .val (.int 1)] [] _
        refine XS.iload X150.here hx rfl (hb hby at_141) rfl ?_
        show own_S p e below T150 m 143 #[.val (.int p0), .val (.int p1), .val (.int p2), .val (.int p3), .val (.int p4), .val (.int 1), .val (.int 0), .val (.double (FP.i2d p0)), .second, .val (.double (FP.i2d p1)), .second, .val (.double (FP.i2d p0)), .second, .val (.double (FP.i2d p1)), .second, .val (.ref b136), .val (.ref b140), .val (.int (own_hash (FP.i2d p0) (FP.i2d p1))), .val (.int (own_hash (FP.i2d p0) (FP.i2d p1))), .val (.int (own_hash (FP.i2d p0) (FP.i2d p1))), .val (.int 1)] [(.int 1)] _
        refine XS.ifNo X150.here hx rfl (hb hby at_143) rfl ((if0 _ _).trans (feq (by decide : ¬ ((1 : Int32) = (0 : Int32)))).1) ?_
        show own_S p e below T150 m 146 #[.val (.int p0), .val (.int p1), .val (.int p2), .val (.int p3), .val (.int p4), .val (.int 1), .val (.int 0), .val (.double (FP.i2d p0)), .second, .val (.double (FP.i2d p1)), .second, .val (.double (FP.i2d p0)), .second, .val (.double (FP.i2d p1)), .second, .val (.ref b136), .val (.ref b140), .val (.int (own_hash (FP.i2d p0) (FP.i2d p1))), .val (.int (own_hash (FP.i2d p0) (FP.i2d p1))), .val (.int (own_hash (FP.i2d p0) (FP.i2d p1))), .val (.int 1)] [] _
        refine XS.iload X150.here hx rfl (hb hby at_146) rfl ?_
        show own_S p e below T150 m 148 #[.val (.int p0), .val (.int p1), .val (.int p2), .val (.int p3), .val (.int p4), .val (.int 1), .val (.int 0), .val (.double (FP.i2d p0)), .second, .val (.double (FP.i2d p1)), .second, .val (.double (FP.i2d p0)), .second, .val (.double (FP.i2d p1)), .second, .val (.ref b136), .val (.ref b140), .val (.int (own_hash (FP.i2d p0) (FP.i2d p1))), .val (.int (own_hash (FP.i2d p0) (FP.i2d p1))), .val (.int (own_hash (FP.i2d p0) (FP.i2d p1))), .val (.int 1)] [(.int 1)] _
        refine XS.ifYes X150.here hx rfl (pc0 := 148) (pc' := 153) rfl (hb hby at_148) rfl ((if0 _ _).trans (feq (by decide : ¬ ((1 : Int32) = (0 : Int32)))).2) (by decide) (by decide) ?_
        show own_S p e below T150 m 153 #[.val (.int p0), .val (.int p1), .val (.int p2), .val (.int p3), .val (.int p4), .val (.int 1), .val (.int 0), .val (.double (FP.i2d p0)), .second, .val (.double (FP.i2d p1)), .second, .val (.double (FP.i2d p0)), .second, .val (.double (FP.i2d p1)), .second, .val (.ref b136), .val (.ref b140), .val (.int (own_hash (FP.i2d p0) (FP.i2d p1))), .val (.int (own_hash (FP.i2d p0) (FP.i2d p1))), .val (.int (own_hash (FP.i2d p0) (FP.i2d p1))), .val (.int 1)] [] _
        refine XS.iload X150.here hx rfl (hb hby at_153) rfl ?_
        show own_S p e below T150 m 155 #[.val (.int p0), .val (.int p1), .val (.int p2), .val (.int p3), .val (.int p4), .val (.int 1), .val (.int 0), .val (.double (FP.i2d p0)), .second, .val (.double (FP.i2d p1)), .second, .val (.double (FP.i2d p0)), .second, .val (.double (FP.i2d p1)), .second, .val (.ref b136), .val (.ref b140), .val (.int (own_hash (FP.i2d p0) (FP.i2d p1))), .val (.int (own_hash (FP.i2d p0) (FP.i2d p1))), .val (.int (own_hash (FP.i2d p0) (FP.i2d p1))), .val (.int 1)] [(.int 1)] _
        refine XS.ifNo X150.here hx rfl (hb hby at_155) rfl ((if0 _ _).trans (feq (by decide : ¬ ((1 : Int32) = (0 : Int32)))).1) ?_
        show own_S p e below T150 m 158 #[.val (.int p0), .val (.int p1), .val (.int p2), .val (.int p3), .val (.int p4), .val (.int 1), .val (.int 0), .val (.double (FP.i2d p0)), .second, .val (.double (FP.i2d p1)), .second, .val (.double (FP.i2d p0)), .second, .val (.double (FP.i2d p1)), .second, .val (.ref b136), .val (.ref b140), .val (.int (own_hash (FP.i2d p0) (FP.i2d p1))), .val (.int (own_hash (FP.i2d p0) (FP.i2d p1))), .val (.int (own_hash (FP.i2d p0) (FP.i2d p1))), .val (.int 1)] [] _
        refine XS.iload X150.here hx rfl (hb hby at_158) rfl ?_
        show own_S p e below T150 m 160 #[.val (.int p0), .val (.int p1), .val (.int p2), .val (.int p3), .val (.int p4), .val (.int 1), .val (.int 0), .val (.double (FP.i2d p0)), .second, .val (.double (FP.i2d p1)), .second, .val (.double (FP.i2d p0)), .second, .val (.double (FP.i2d p1)), .second, .val (.ref b136), .val (.ref b140), .val (.int (own_hash (FP.i2d p0) (FP.i2d p1))), .val (.int (own_hash (FP.i2d p0) (FP.i2d p1))), .val (.int (own_hash (FP.i2d p0) (FP.i2d p1))), .val (.int 1)] [(.int (own_hash (FP.i2d p0) (FP.i2d p1)))] _
        refine XS.iload X150.here hx rfl (hb hby at_160) rfl ?_
        show own_S p e below T150 m 162 #[.val (.int p0), .val (.int p1), .val (.int p2), .val (.int p3), .val (.int p4), .val (.int 1), .val (.int 0), .val (.double (FP.i2d p0)), .second, .val (.double (FP.i2d p1)), .second, .val (.double (FP.i2d p0)), .second, .val (.double (FP.i2d p1)), .second, .val (.ref b136), .val (.ref b140), .val (.int (own_hash (FP.i2d p0) (FP.i2d p1))), .val (.int (own_hash (FP.i2d p0) (FP.i2d p1))), .val (.int (own_hash (FP.i2d p0) (FP.i2d p1))), .val (.int 1)] [(.int (own_hash (FP.i2d p0) (FP.i2d p1))), (.int (own_hash (FP.i2d p0) (FP.i2d p1)))] _
        refine XS.icmpNo X150.here hx rfl (hb hby at_162) rfl (teq (rfl : (own_hash (FP.i2d p0) (FP.i2d p1)) = (own_hash (FP.i2d p0) (FP.i2d p1)))).2 ?_
        show own_S p e below T150 m 165 #[.val (.int p0), .val (.int p1), .val (.int p2), .val (.int p3), .val (.int p4), .val (.int 1), .val (.int 0), .val (.double (FP.i2d p0)), .second, .val (.double (FP.i2d p1)), .second, .val (.double (FP.i2d p0)), .second, .val (.double (FP.i2d p1)), .second, .val (.ref b136), .val (.ref b140), .val (.int (own_hash (FP.i2d p0) (FP.i2d p1))), .val (.int (own_hash (FP.i2d p0) (FP.i2d p1))), .val (.int (own_hash (FP.i2d p0) (FP.i2d p1))), .val (.int 1)] [] _
        refine XS.iconst X150.here hx rfl (hb hby at_165) ?_
        show own_S p e below T150 m 166 #[.val (.int p0), .val (.int p1), .val (.int p2), .val (.int p3), .val (.int p4), .val (.int 1), .val (.int 0), .val (.double (FP.i2d p0)), .second, .val (.double (FP.i2d p1)), .second, .val (.double (FP.i2d p0)), .second, .val (.double (FP.i2d p1)), .second, .val (.ref b136), .val (.ref b140), .val (.int (own_hash (FP.i2d p0) (FP.i2d p1))), .val (.int (own_hash (FP.i2d p0) (FP.i2d p1))), .val (.int (own_hash (FP.i2d p0) (FP.i2d p1))), .val (.int 1)] [(.int 1)] _
        refine XS.goto X150.here hx rfl (pc0 := 166) (pc' := 170) rfl (hb hby at_166) (by decide) (by decide) ?_
        show own_S p e below T150 m 170 #[.val (.int p0), .val (.int p1), .val (.int p2), .val (.int p3), .val (.int p4), .val (.int 1), .val (.int 0), .val (.double (FP.i2d p0)), .second, .val (.double (FP.i2d p1)), .second, .val (.double (FP.i2d p0)), .second, .val (.double (FP.i2d p1)), .second, .val (.ref b136), .val (.ref b140), .val (.int (own_hash (FP.i2d p0) (FP.i2d p1))), .val (.int (own_hash (FP.i2d p0) (FP.i2d p1))), .val (.int (own_hash (FP.i2d p0) (FP.i2d p1))), .val (.int 1)] [(.int 1)] _
        exact retN X150 hx (t := .boolean) Bd.returns (by simp) (hb hby at_170) hr
      · show Qm0 Z p0 p1 p2 p3 p4 h0 n0 _ T150.heap _
        rw [P150_0]
        exact ⟨rfl, N150⟩
    · skip
      obtain ⟨T151, h151, X151, e151, E151, A151, D151, -, st151⟩ := newO X0 hx hZ hown (own_w hw 0 rfl) (own_w hw 1 rfl) (own_w hw 2 rfl) e0 (g := (mkF m 76 #[.val (.int p0), .val (.int p1), .val (.int p2), .val (.int p3), .val (.int p4), .val (.int 1), .val (.int 1), .val (.double (FP.i2d p0)), .second, .val (.double (FP.i2d p1)), .second, .val (.double (FP.i2d p0)), .second, .val (.double (FP.i2d p1)), .second, .unset, .unset, .unset, .unset, .unset, .unset] [])) rfl (hb hby at_76) (by decide) (by decide)
      obtain ⟨b151, g151⟩ : ∃ z, z = h0.size := ⟨_, rfl⟩
      rw [← g151] at A151 D151 st151
      have g_b151 : n0 ≤ b151 := Nat.le_trans Z0 (Nat.le_of_eq g151.symm)
      have ZZ152 : n0 ≤ h151.size := Nat.le_trans Z0 E151.1
      have F_x_b151 : Fld Z h151 b151 "com/example/minisum/minisum/Point" "x" "D" (.double 0) := D151 (Or.inr (own_w hw 19 rfl)) (ty := .double) (by decide)
      have F_y_b151 : Fld Z h151 b151 "com/example/minisum/minisum/Point" "y" "D" (.double 0) := D151 (Or.inr (own_w hw 21 rfl)) (ty := .double) (by decide)
      obtain ⟨_, _, ⟨T153, L153, k153, n153⟩, -, X153, ⟨Lc153, hQ153, l153, y153, z153⟩, st153⟩ := X151.specialBack hx (y := (⟨"com/example/minisum/minisum/Point", "<init>", "(DD)V"⟩ : MethodName)) rfl hown (mvT hZ (own_w hw 3 rfl)) (mvT hZ (own_w hw 4 rfl)) (mvT hZ (own_w hw 5 rfl)) (by decide) (backOf (W := 1) (rmm1 l Z a0 hw [] b151 (FP.i2d p0) (FP.i2d p1) (.double 0) (.double 0) h151 n0 ZZ152 F_x_b151 F_y_b151 A151 g_b151 (i2d_fin _) (i2d_fin _)) hZ (own_w hw 5 rfl) (own_w hw 2 rfl) (by decide) (by decide)) (g := (mkF m 84 #[.val (.int p0), .val (.int p1), .val (.int p2), .val (.int p3), .val (.int p4), .val (.int 1), .val (.int 1), .val (.double (FP.i2d p0)), .second, .val (.double (FP.i2d p1)), .second, .val (.double (FP.i2d p0)), .second, .val (.double (FP.i2d p1)), .second, .unset, .unset, .unset, .unset, .unset, .unset] [(.double (FP.i2d p1)), (.double (FP.i2d p0)), (.ref b151), (.ref b151)])) rfl (by rw [hml]; rfl) (Steps.refl _) (a := b151) (argsL := [(.double (FP.i2d p0)), (.double (FP.i2d p1))]) (rest := [(.ref b151)]) (lenOf pd6 rfl) rfl (by show 2 * 0 + _ ≤ _; exact Nat.le_of_eq rfl) (hb hby at_84) (fun _ _ => ⟨rfl, e151, (by decide : 1 + 0 ≤ _), (by decide : 2 + 0 ≤ _)⟩)
      dsimp only [Pt.U, Pt.locs, Pt.cells, Pt.slots] at X153 l153 y153 z153 st153 hQ153
      subst l153 y153 z153
      obtain ⟨rfl, Nq153, P153_0, P153_1, P153_2, P153_3⟩ := hQ153
      have N153 := Fr.app N0 Nq153
      have ZZ154 : n0 ≤ T153.heap.size := Nat.le_trans ZZ152 P153_0.1
      obtain ⟨T155, h155, X155, e155, E155, A155, D155, -, st155⟩ := newO X153 hx hZ hown (own_w hw 0 rfl) (own_w hw 1 rfl) (own_w hw 2 rfl) rfl (g := (mkF m 89 #[.val (.int p0), .val (.int p1), .val (.int p2), .val (.int p3), .val (.int p4), .val (.int 1), .val (.int 1), .val (.double (FP.i2d p0)), .second, .val (.double (FP.i2d p1)), .second, .val (.double (FP.i2d p0)), .second, .val (.double (FP.i2d p1)), .second, .val (.ref b151), .unset, .unset, .unset, .unset, .unset] [])) rfl (hb hby at_89) (by decide) (by decide)
      obtain ⟨b155, g155⟩ : ∃ z, z = T153.heap.size := ⟨_, rfl⟩
      rw [← g155] at A155 D155 st155
      have g_b155 : n0 ≤ b155 := Nat.le_trans ZZ154 (Nat.le_of_eq g155.symm)
      have ZZ156 : n0 ≤ h155.size := Nat.le_trans ZZ154 E155.1
      have F_x_b155 : Fld Z h155 b155 "com/example/minisum/minisum/Point" "x" "D" (.double 0) := D155 (Or.inr (own_w hw 19 rfl)) (ty := .double) (by decide)
      have F_y_b155 : Fld Z h155 b155 "com/example/minisum/minisum/Point" "y" "D" (.double 0) := D155 (Or.inr (own_w hw 21 rfl)) (ty := .double) (by decide)
      obtain ⟨_, _, ⟨T157, L157, k157, n157⟩, -, X157, ⟨Lc157, hQ157, l157, y157, z157⟩, st157⟩ := X155.specialBack hx (y := (⟨"com/example/minisum/minisum/Point", "<init>", "(DD)V"⟩ : MethodName)) rfl hown (mvT hZ (own_w hw 3 rfl)) (mvT hZ (own_w hw 4 rfl)) (mvT hZ (own_w hw 5 rfl)) (by decide) (backOf (W := 1) (rmm1 l Z a0 hw [] b155 (FP.i2d p0) (FP.i2d p1) (.double 0) (.double 0) h155 n0 ZZ156 F_x_b155 F_y_b155 A155 g_b155 (i2d_fin _) (i2d_fin _)) hZ (own_w hw 5 rfl) (own_w hw 2 rfl) (by decide) (by decide)) (g := (mkF m 97 #[.val (.int p0), .val (.int p1), .val (.int p2), .val (.int p3), .val (.int p4), .val (.int 1), .val (.int 1), .val (.double (FP.i2d p0)), .second, .val (.double (FP.i2d p1)), .second, .val (.double (FP.i2d p0)), .second, .val (.double (FP.i2d p1)), .second, .val (.ref b151), .unset, .unset, .unset, .unset, .unset] [(.double (FP.i2d p1)), (.double (FP.i2d p0)), (.ref b155), (.ref b155)])) rfl (by rw [hml]; rfl) (Steps.refl _) (a := b155) (argsL := [(.double (FP.i2d p0)), (.double (FP.i2d p1))]) (rest := [(.ref b155)]) (lenOf pd6 rfl) rfl (by show 2 * 0 + _ ≤ _; exact Nat.le_of_eq rfl) (hb hby at_97) (fun _ _ => ⟨rfl, e155, (by decide : 2 + 0 ≤ _), (by decide : 4 + 0 ≤ _)⟩)
      dsimp only [Pt.U, Pt.locs, Pt.cells, Pt.slots] at X157 l157 y157 z157 st157 hQ157
      subst l157 y157 z157
      obtain ⟨rfl, Nq157, P157_0, P157_1, P157_2, P157_3⟩ := hQ157
      have N157 := Fr.app N153 Nq157
      have ZZ158 : n0 ≤ T157.heap.size := Nat.le_trans ZZ156 P157_0.1
      have Fc159 := ((P153_2.ext E155).keep P157_0 (ninS (Nat.ne_of_lt (Nat.lt_of_lt_of_le P153_1.lt (Nat.le_of_eq g155.symm))) nin0))
      have Fc160 := ((P153_3.ext E155).keep P157_0 (ninS (Nat.ne_of_lt (Nat.lt_of_lt_of_le P153_1.lt (Nat.le_of_eq g155.symm))) nin0))
      have Fc162 := ((P153_1.ext E155).keep P157_0)
      obtain ⟨cq161, kq161, q161a, q161b, q161c⟩ := isOf hZ rfl Fc162
      obtain ⟨_, _, ⟨T161, L161, k161, n161⟩, -, X161, ⟨Lc161, hQ161, l161, y161, z161⟩, st161⟩ := X157.virtualBack hx (y := (⟨"com/example/minisum/minisum/Point", "hashCode", "()I"⟩ : MethodName)) (z := (⟨"com/example/minisum/minisum/Point", "hashCode", "()I"⟩ : MethodName)) hown (mvT hZ (own_w hw 22 rfl)) (mvT hZ (own_w hw 23 rfl)) (notFace_of_selects (args := #[]) (mvT hZ (own_w hw 25 rfl))) (mvT hZ (own_w hw 25 rfl)) (mvT hZ (own_w hw 24 rfl)) (by decide) (backOf (W := 0) (rmm5 l Z a0 hw [] b151 (FP.i2d p0) (FP.i2d p1) T157.heap n0 ZZ158 Fc159 Fc160 ((i2d_fin _).noNaN) ((i2d_fin _).noNaN)) hZ (own_w hw 26 rfl) (own_w hw 2 rfl) (by decide) (by decide)) q161a q161c (g := (mkF m 104 #[.val (.int p0), .val (.int p1), .val (.int p2), .val (.int p3), .val (.int p4), .val (.int 1), .val (.int 1), .val (.double (FP.i2d p0)), .second, .val (.double (FP.i2d p1)), .second, .val (.double (FP.i2d p0)), .second, .val (.double (FP.i2d p1)), .second, .val (.ref b151), .val (.ref b155), .unset, .unset, .unset, .unset] [(.ref b151)])) rfl (by rw [hml]; rfl) (Steps.refl _) (argsL := []) (rest := []) (lenOf pd7 rfl) rfl (by show 2 * 0 + _ ≤ _; exact Nat.le_of_eq rfl) (hb hby at_104) (fun _ _ => ⟨rfl, rfl, (by decide : 2 + 0 ≤ _), (by decide : 4 + 0 ≤ _)⟩)
      dsimp only [Pt.U, Pt.locs, Pt.cells, Pt.slots] at X161 l161 y161 z161 st161 hQ161
      subst l161 y161 z161
      obtain ⟨rfl, Nq161, P161_0⟩ := hQ161
      have N161 := Fr.app N157 Nq161
      obtain ⟨cq163, kq163, q163a, q163b, q163c⟩ := isOf hZ P161_0 Fc162
      obtain ⟨_, _, ⟨T163, L163, k163, n163⟩, -, X163, ⟨Lc163, hQ163, l163, y163, z163⟩, st163⟩ := X161.virtualBack hx (y := (⟨"com/example/minisum/minisum/Point", "hashCode", "()I"⟩ : MethodName)) (z := (⟨"com/example/minisum/minisum/Point", "hashCode", "()I"⟩ : MethodName)) hown (mvT hZ (own_w hw 22 rfl)) (mvT hZ (own_w hw 23 rfl)) (notFace_of_selects (args := #[]) (mvT hZ (own_w hw 25 rfl))) (mvT hZ (own_w hw 25 rfl)) (mvT hZ (own_w hw 24 rfl)) (by decide) (backOf (W := 0) (rmm5 l Z a0 hw [] b151 (FP.i2d p0) (FP.i2d p1) T157.heap n0 ZZ158 Fc159 Fc160 ((i2d_fin _).noNaN) ((i2d_fin _).noNaN)) hZ (own_w hw 26 rfl) (own_w hw 2 rfl) (by decide) (by decide)) q163a q163c (g := (mkF m 111 #[.val (.int p0), .val (.int p1), .val (.int p2), .val (.int p3), .val (.int p4), .val (.int 1), .val (.int 1), .val (.double (FP.i2d p0)), .second, .val (.double (FP.i2d p1)), .second, .val (.double (FP.i2d p0)), .second, .val (.double (FP.i2d p1)), .second, .val (.ref b151), .val (.ref b155), .val (.int (own_hash (FP.i2d p0) (FP.i2d p1))), .unset, .unset, .unset] [(.ref b151)])) rfl (by rw [hml]; rfl) (Steps.refl _) (argsL := []) (rest := []) (lenOf pd7 rfl) rfl (by show 2 * 0 + _ ≤ _; exact Nat.le_of_eq rfl) (hb hby at_111) (fun _ _ => ⟨rfl, P161_0, (by decide : 2 + 0 ≤ _), (by decide : 4 + 0 ≤ _)⟩)
      dsimp only [Pt.U, Pt.locs, Pt.cells, Pt.slots] at X163 l163 y163 z163 st163 hQ163
      subst l163 y163 z163
      obtain ⟨rfl, Nq163, P163_0⟩ := hQ163
      have N163 := Fr.app N161 Nq163
      obtain ⟨cq164, kq164, q164a, q164b, q164c⟩ := isOf hZ P163_0 P157_1
      obtain ⟨_, _, ⟨T164, L164, k164, n164⟩, -, X164, ⟨Lc164, hQ164, l164, y164, z164⟩, st164⟩ := X163.virtualBack hx (y := (⟨"com/example/minisum/minisum/Point", "hashCode", "()I"⟩ : MethodName)) (z := (⟨"com/example/minisum/minisum/Point", "hashCode", "()I"⟩ : MethodName)) hown (mvT hZ (own_w hw 22 rfl)) (mvT hZ (own_w hw 23 rfl)) (notFace_of_selects (args := #[]) (mvT hZ (own_w hw 25 rfl))) (mvT hZ (own_w hw 25 rfl)) (mvT hZ (own_w hw 24 rfl)) (by decide) (backOf (W := 0) (rmm5 l Z a0 hw [] b155 (FP.i2d p0) (FP.i2d p1) T157.heap n0 ZZ158 P157_2 P157_3 ((i2d_fin _).noNaN) ((i2d_fin _).noNaN)) hZ (own_w hw 26 rfl) (own_w hw 2 rfl) (by decide) (by decide)) q164a q164c (g := (mkF m 118 #[.val (.int p0), .val (.int p1), .val (.int p2), .val (.int p3), .val (.int p4), .val (.int 1), .val (.int 1), .val (.double (FP.i2d p0)), .second, .val (.double (FP.i2d p1)), .second, .val (.double (FP.i2d p0)), .second, .val (.double (FP.i2d p1)), .second, .val (.ref b151), .val (.ref b155), .val (.int (own_hash (FP.i2d p0) (FP.i2d p1))), .val (.int (own_hash (FP.i2d p0) (FP.i2d p1))), .unset, .unset] [(.ref b155)])) rfl (by rw [hml]; rfl) (Steps.refl _) (argsL := []) (rest := []) (lenOf pd7 rfl) rfl (by show 2 * 0 + _ ≤ _; exact Nat.le_of_eq rfl) (hb hby at_118) (fun _ _ => ⟨rfl, P163_0, (by decide : 2 + 0 ≤ _), (by decide : 4 + 0 ≤ _)⟩)
      dsimp only [Pt.U, Pt.locs, Pt.cells, Pt.slots] at X164 l164 y164 z164 st164 hQ164
      subst l164 y164 z164
      obtain ⟨rfl, Nq164, P164_0⟩ := hQ164
      have N164 := Fr.app N163 Nq164
      obtain ⟨cq165, kq165, q165a, q165b, q165c⟩ := isOf hZ P164_0 Fc162
      obtain ⟨_, _, ⟨T165, L165, k165, n165⟩, -, X165, ⟨Lc165, hQ165, l165, y165, z165⟩, st165⟩ := X164.virtualBack hx (y := (⟨"com/example/minisum/minisum/Point", "equals", "(Ljava/lang/Object;)Z"⟩ : MethodName)) (z := (⟨"com/example/minisum/minisum/Point", "equals", "(Ljava/lang/Object;)Z"⟩ : MethodName)) hown (mvT hZ (own_w hw 43 rfl)) (mvT hZ (own_w hw 44 rfl)) (notFace_of_selects (args := #[]) (mvT hZ (own_w hw 46 rfl))) (mvT hZ (own_w hw 46 rfl)) (mvT hZ (own_w hw 45 rfl)) (by decide) (backOf (W := 0) (rmm10 l Z a0 hw [] b151 b155 (FP.i2d p0) (FP.i2d p1) (FP.i2d p0) (FP.i2d p1) T157.heap n0 ZZ158 Fc159 Fc160 P157_2 P157_3 P157_1 ((i2d_fin _).noNaN) ((i2d_fin _).noNaN) ((i2d_fin _).noNaN) ((i2d_fin _).noNaN)) hZ (own_w hw 47 rfl) (own_w hw 2 rfl) (by decide) (by decide)) q165a q165c (g := (mkF m 127 #[.val (.int p0), .val (.int p1), .val (.int p2), .val (.int p3), .val (.int p4), .val (.int 1), .val (.int 1), .val (.double (FP.i2d p0)), .second, .val (.double (FP.i2d p1)), .second, .val (.double (FP.i2d p0)), .second, .val (.double (FP.i2d p1)), .second, .val (.ref b151), .val (.ref b155), .val (.int (own_hash (FP.i2d p0) (FP.i2d p1))), .val (.int (own_hash (FP.i2d p0) (FP.i2d p1))), .val (.int (own_hash (FP.i2d p0) (FP.i2d p1))), .unset] [(.ref b155), (.ref b151)])) rfl (by rw [hml]; rfl) (Steps.refl _) (argsL := [(.ref b155)]) (rest := []) (lenOf pd8 rfl) rfl (by show 2 * 0 + _ ≤ _; exact Nat.le_of_eq rfl) (hb hby at_127) (fun _ _ => ⟨rfl, P164_0, (by decide : 2 + 0 ≤ _), (by decide : 4 + 0 ≤ _)⟩)
      dsimp only [Pt.U, Pt.locs, Pt.cells, Pt.slots] at X165 l165 y165 z165 st165 hQ165
      subst l165 y165 z165
      obtain ⟨rfl, Nq165, P165_0⟩ := hQ165
      have N165 := Fr.app N164 Nq165
      obtain ⟨fs, hr, hrun, hended, hW, hsame⟩ := X165.leave (v := some (.int 1)) (fun h => by rw [Bd.returns] at h; cases h)
      refine ⟨_, _, pre0 _ (pre135 _ ?_), hrun, hended, _, _, rfl, ?_, ⟨_, rfl⟩, hW, hsame.mono (by decide) (by decide)⟩
      · show own_S p e below s₁ m 18 #[.val (.int p0), .val (.int p1), .val (.int p2), .val (.int p3), .val (.int p4), .val (.int 1), .unset, .unset, .unset, .unset, .unset, .unset, .unset, .unset, .unset, .unset, .unset, .unset, .unset, .unset, .unset] [(.int (p4 &&& (2 : Int32)))] _
        refine XS.ifNo X0.here hx rfl (hb hby at_18) rfl ((if0 _ _).trans (feq (hswap : ¬ ((p4 &&& (2 : Int32)) = (0 : Int32)))).1) ?_
        show own_S p e below s₁ m 21 #[.val (.int p0), .val (.int p1), .val (.int p2), .val (.int p3), .val (.int p4), .val (.int 1), .unset, .unset, .unset, .unset, .unset, .unset, .unset, .unset, .unset, .unset, .unset, .unset, .unset, .unset, .unset] [] _
        refine XS.iconst X0.here hx rfl (hb hby at_21) ?_
        show own_S p e below s₁ m 22 #[.val (.int p0), .val (.int p1), .val (.int p2), .val (.int p3), .val (.int p4), .val (.int 1), .unset, .unset, .unset, .unset, .unset, .unset, .unset, .unset, .unset, .unset, .unset, .unset, .unset, .unset, .unset] [(.int 1)] _
        refine XS.goto X0.here hx rfl (pc0 := 22) (pc' := 26) rfl (hb hby at_22) (by decide) (by decide) ?_
        show own_S p e below s₁ m 26 #[.val (.int p0), .val (.int p1), .val (.int p2), .val (.int p3), .val (.int p4), .val (.int 1), .unset, .unset, .unset, .unset, .unset, .unset, .unset, .unset, .unset, .unset, .unset, .unset, .unset, .unset, .unset] [(.int 1)] _
        refine XS.istore X0.here hx rfl (hb hby at_26) rfl (l' := #[.val (.int p0), .val (.int p1), .val (.int p2), .val (.int p3), .val (.int p4), .val (.int 1), .val (.int 1), .unset, .unset, .unset, .unset, .unset, .unset, .unset, .unset, .unset, .unset, .unset, .unset, .unset, .unset]) rfl ?_
        show own_S p e below s₁ m 28 #[.val (.int p0), .val (.int p1), .val (.int p2), .val (.int p3), .val (.int p4), .val (.int 1), .val (.int 1), .unset, .unset, .unset, .unset, .unset, .unset, .unset, .unset, .unset, .unset, .unset, .unset, .unset, .unset] [] _
        refine XS.iloadN X0.here hx rfl (hb hby at_28) rfl ?_
        show own_S p e below s₁ m 29 #[.val (.int p0), .val (.int p1), .val (.int p2), .val (.int p3), .val (.int p4), .val (.int 1), .val (.int 1), .unset, .unset, .unset, .unset, .unset, .unset, .unset, .unset, .unset, .unset, .unset, .unset, .unset, .unset] [(.int p0)] _
        refine XS.i2dS X0.here hx rfl (v := (FP.i2d p0)) (hb hby at_29) rfl rfl ?_
        show own_S p e below s₁ m 30 #[.val (.int p0), .val (.int p1), .val (.int p2), .val (.int p3), .val (.int p4), .val (.int 1), .val (.int 1), .unset, .unset, .unset, .unset, .unset, .unset, .unset, .unset, .unset, .unset, .unset, .unset, .unset, .unset] [(.double (FP.i2d p0))] _
        refine XS.dstore X0.here hx rfl (hb hby at_30) rfl (l' := #[.val (.int p0), .val (.int p1), .val (.int p2), .val (.int p3), .val (.int p4), .val (.int 1), .val (.int 1), .val (.double (FP.i2d p0)), .second, .unset, .unset, .unset, .unset, .unset, .unset, .unset, .unset, .unset, .unset, .unset, .unset]) rfl ?_
        show own_S p e below s₁ m 32 #[.val (.int p0), .val (.int p1), .val (.int p2), .val (.int p3), .val (.int p4), .val (.int 1), .val (.int 1), .val (.double (FP.i2d p0)), .second, .unset, .unset, .unset, .unset, .unset, .unset, .unset, .unset, .unset, .unset, .unset, .unset] [] _
        refine XS.iloadN X0.here hx rfl (hb hby at_32) rfl ?_
        show own_S p e below s₁ m 33 #[.val (.int p0), .val (.int p1), .val (.int p2), .val (.int p3), .val (.int p4), .val (.int 1), .val (.int 1), .val (.double (FP.i2d p0)), .second, .unset, .unset, .unset, .unset, .unset, .unset, .unset, .unset, .unset, .unset, .unset, .unset] [(.int p1)] _
        refine XS.i2dS X0.here hx rfl (v := (FP.i2d p1)) (hb hby at_33) rfl rfl ?_
        show own_S p e below s₁ m 34 #[.val (.int p0), .val (.int p1), .val (.int p2), .val (.int p3), .val (.int p4), .val (.int 1), .val (.int 1), .val (.double (FP.i2d p0)), .second, .unset, .unset, .unset, .unset, .unset, .unset, .unset, .unset, .unset, .unset, .unset, .unset] [(.double (FP.i2d p1))] _
        refine XS.dstore X0.here hx rfl (hb hby at_34) rfl (l' := #[.val (.int p0), .val (.int p1), .val (.int p2), .val (.int p3), .val (.int p4), .val (.int 1), .val (.int 1), .val (.double (FP.i2d p0)), .second, .val (.double (FP.i2d p1)), .second, .unset, .unset, .unset, .unset, .unset, .unset, .unset, .unset, .unset, .unset]) rfl ?_
        show own_S p e below s₁ m 36 #[.val (.int p0), .val (.int p1), .val (.int p2), .val (.int p3), .val (.int p4), .val (.int 1), .val (.int 1), .val (.double (FP.i2d p0)), .second, .val (.double (FP.i2d p1)), .second, .unset, .unset, .unset, .unset, .unset, .unset, .unset, .unset, .unset, .unset] [] _
        refine XS.iload X0.here hx rfl (hb hby at_36) rfl ?_
        show own_S p e below s₁ m 38 #[.val (.int p0), .val (.int p1), .val (.int p2), .val (.int p3), .val (.int p4), .val (.int 1), .val (.int 1), .val (.double (FP.i2d p0)), .second, .val (.double (FP.i2d p1)), .second, .unset, .unset, .unset, .unset, .unset, .unset, .unset, .unset, .unset, .unset] [(.int 1)] _
        refine XS.ifNo X0.here hx rfl (hb hby at_38) rfl ((if0 _ _).trans (feq (by decide : ¬ ((1 : Int32) = (0 : Int32)))).1) ?_
        show own_S p e below s₁ m 41 #[.val (.int p0), .val (.int p1), .val (.int p2), .val (.int p3), .val (.int p4), .val (.int 1), .val (.int 1), .val (.double (FP.i2d p0)), .second, .val (.double (FP.i2d p1)), .second, .unset, .unset, .unset, .unset, .unset, .unset, .unset, .unset, .unset, .unset] [] _
        refine XS.iloadN X0.here hx rfl (hb hby at_41) rfl ?_
        show own_S p e below s₁ m 42 #[.val (.int p0), .val (.int p1), .val (.int p2), .val (.int p3), .val (.int p4), .val (.int 1), .val (.int 1), .val (.double (FP.i2d p0)), .second, .val (.double (FP.i2d p1)), .second, .unset, .unset, .unset, .unset, .unset, .unset, .unset, .unset, .unset, .unset] [(.int p0)] _
        refine XS.i2dS X0.here hx rfl (v := (FP.i2d p0)) (hb hby at_42) rfl rfl ?_
        show own_S p e below s₁ m 43 #[.val (.int p0), .val (.int p1), .val (.int p2), .val (.int p3), .val (.int p4), .val (.int 1), .val (.int 1), .val (.double (FP.i2d p0)), .second, .val (.double (FP.i2d p1)), .second, .unset, .unset, .unset, .unset, .unset, .unset, .unset, .unset, .unset, .unset] [(.double (FP.i2d p0))] _
        refine XS.dstore X0.here hx rfl (hb hby at_43) rfl (l' := #[.val (.int p0), .val (.int p1), .val (.int p2), .val (.int p3), .val (.int p4), .val (.int 1), .val (.int 1), .val (.double (FP.i2d p0)), .second, .val (.double (FP.i2d p1)), .second, .val (.double (FP.i2d p0)), .second, .unset, .unset, .unset, .unset, .unset, .unset, .unset, .unset]) rfl ?_
        show own_S p e below s₁ m 45 #[.val (.int p0), .val (.int p1), .val (.int p2), .val (.int p3), .val (.int p4), .val (.int 1), .val (.int 1), .val (.double (FP.i2d p0)), .second, .val (.double (FP.i2d p1)), .second, .val (.double (FP.i2d p0)), .second, .unset, .unset, .unset, .unset, .unset, .unset, .unset, .unset] [] _
        refine XS.iloadN X0.here hx rfl (hb hby at_45) rfl ?_
        show own_S p e below s₁ m 46 #[.val (.int p0), .val (.int p1), .val (.int p2), .val (.int p3), .val (.int p4), .val (.int 1), .val (.int 1), .val (.double (FP.i2d p0)), .second, .val (.double (FP.i2d p1)), .second, .val (.double (FP.i2d p0)), .second, .unset, .unset, .unset, .unset, .unset, .unset, .unset, .unset] [(.int p1)] _
        refine XS.i2dS X0.here hx rfl (v := (FP.i2d p1)) (hb hby at_46) rfl rfl ?_
        show own_S p e below s₁ m 47 #[.val (.int p0), .val (.int p1), .val (.int p2), .val (.int p3), .val (.int p4), .val (.int 1), .val (.int 1), .val (.double (FP.i2d p0)), .second, .val (.double (FP.i2d p1)), .second, .val (.double (FP.i2d p0)), .second, .unset, .unset, .unset, .unset, .unset, .unset, .unset, .unset] [(.double (FP.i2d p1))] _
        refine XS.dstore X0.here hx rfl (hb hby at_47) rfl (l' := #[.val (.int p0), .val (.int p1), .val (.int p2), .val (.int p3), .val (.int p4), .val (.int 1), .val (.int 1), .val (.double (FP.i2d p0)), .second, .val (.double (FP.i2d p1)), .second, .val (.double (FP.i2d p0)), .second, .val (.double (FP.i2d p1)), .second, .unset, .unset, .unset, .unset, .unset, .unset]) rfl ?_
        show own_S p e below s₁ m 49 #[.val (.int p0), .val (.int p1), .val (.int p2), .val (.int p3), .val (.int p4), .val (.int 1), .val (.int 1), .val (.double (FP.i2d p0)), .second, .val (.double (FP.i2d p1)), .second, .val (.double (FP.i2d p0)), .second, .val (.double (FP.i2d p1)), .second, .unset, .unset, .unset, .unset, .unset, .unset] [] _
        refine XS.goto X0.here hx rfl (pc0 := 49) (pc' := 76) rfl (hb hby at_49) (by decide) (by decide) ?_
        show own_S p e below s₁ m 76 #[.val (.int p0), .val (.int p1), .val (.int p2), .val (.int p3), .val (.int p4), .val (.int 1), .val (.int 1), .val (.double (FP.i2d p0)), .second, .val (.double (FP.i2d p1)), .second, .val (.double (FP.i2d p0)), .second, .val (.double (FP.i2d p1)), .second, .unset, .unset, .unset, .unset, .unset, .unset] [] _
        refine st151 _ ?_
        show own_S p e below T151 m 79 #[.val (.int p0), .val (.int p1), .val (.int p2), .val (.int p3), .val (.int p4), .val (.int 1), .val (.int 1), .val (.double (FP.i2d p0)), .second, .val (.double (FP.i2d p1)), .second, .val (.double (FP.i2d p0)), .second, .val (.double (FP.i2d p1)), .second, .unset, .unset, .unset, .unset, .unset, .unset] [(.ref b151)] _
        refine XS.dup X151.here hx rfl (hb hby at_79) rfl rfl ?_
        show own_S p e below T151 m 80 #[.val (.int p0), .val (.int p1), .val (.int p2), .val (.int p3), .val (.int p4), .val (.int 1), .val (.int 1), .val (.double (FP.i2d p0)), .second, .val (.double (FP.i2d p1)), .second, .val (.double (FP.i2d p0)), .second, .val (.double (FP.i2d p1)), .second, .unset, .unset, .unset, .unset, .unset, .unset] [(.ref b151), (.ref b151)] _
        refine XS.dload X151.here hx rfl (hb hby at_80) rfl ?_
        show own_S p e below T151 m 82 #[.val (.int p0), .val (.int p1), .val (.int p2), .val (.int p3), .val (.int p4), .val (.int 1), .val (.int 1), .val (.double (FP.i2d p0)), .second, .val (.double (FP.i2d p1)), .second, .val (.double (FP.i2d p0)), .second, .val (.double (FP.i2d p1)), .second, .unset, .unset, .unset, .unset, .unset, .unset] [(.double (FP.i2d p0)), (.ref b151), (.ref b151)] _
        refine XS.dload X151.here hx rfl (hb hby at_82) rfl ?_
        show own_S p e below T151 m 84 #[.val (.int p0), .val (.int p1), .val (.int p2), .val (.int p3), .val (.int p4), .val (.int 1), .val (.int 1), .val (.double (FP.i2d p0)), .second, .val (.double (FP.i2d p1)), .second, .val (.double (FP.i2d p0)), .second, .val (.double (FP.i2d p1)), .second, .unset, .unset, .unset, .unset, .unset, .unset] [(.double (FP.i2d p1)), (.double (FP.i2d p0)), (.ref b151), (.ref b151)] _
        refine st153.trans ?_
        show own_S p e below T153 m 87 #[.val (.int p0), .val (.int p1), .val (.int p2), .val (.int p3), .val (.int p4), .val (.int 1), .val (.int 1), .val (.double (FP.i2d p0)), .second, .val (.double (FP.i2d p1)), .second, .val (.double (FP.i2d p0)), .second, .val (.double (FP.i2d p1)), .second, .unset, .unset, .unset, .unset, .unset, .unset] [(.ref b151)] _
        refine XS.astore X153.here hx rfl (hb hby at_87) rfl rfl (l' := #[.val (.int p0), .val (.int p1), .val (.int p2), .val (.int p3), .val (.int p4), .val (.int 1), .val (.int 1), .val (.double (FP.i2d p0)), .second, .val (.double (FP.i2d p1)), .second, .val (.double (FP.i2d p0)), .second, .val (.double (FP.i2d p1)), .second, .val (.ref b151), .unset, .unset, .unset, .unset, .unset]) rfl ?_
        show own_S p e below T153 m 89 #[.val (.int p0), .val (.int p1), .val (.int p2), .val (.int p3), .val (.int p4), .val (.int 1), .val (.int 1), .val (.double (FP.i2d p0)), .second, .val (.double (FP.i2d p1)), .second, .val (.double (FP.i2d p0)), .second, .val (.double (FP.i2d p1)), .second, .val (.ref b151), .unset, .unset, .unset, .unset, .unset] [] _
        refine st155 _ ?_
        show own_S p e below T155 m 92 #[.val (.int p0), .val (.int p1), .val (.int p2), .val (.int p3), .val (.int p4), .val (.int 1), .val (.int 1), .val (.double (FP.i2d p0)), .second, .val (.double (FP.i2d p1)), .second, .val (.double (FP.i2d p0)), .second, .val (.double (FP.i2d p1)), .second, .val (.ref b151), .unset, .unset, .unset, .unset, .unset] [(.ref b155)] _
        refine XS.dup X155.here hx rfl (hb hby at_92) rfl rfl ?_
        show own_S p e below T155 m 93 #[.val (.int p0), .val (.int p1), .val (.int p2), .val (.int p3), .val (.int p4), .val (.int 1), .val (.int 1), .val (.double (FP.i2d p0)), .second, .val (.double (FP.i2d p1)), .second, .val (.double (FP.i2d p0)), .second, .val (.double (FP.i2d p1)), .second, .val (.ref b151), .unset, .unset, .unset, .unset, .unset] [(.ref b155), (.ref b155)] _
        refine XS.dload X155.here hx rfl (hb hby at_93) rfl ?_
        show own_S p e below T155 m 95 #[.val (.int p0), .val (.int p1), .val (.int p2), .val (.int p3), .val (.int p4), .val (.int 1), .val (.int 1), .val (.double (FP.i2d p0)), .second, .val (.double (FP.i2d p1)), .second, .val (.double (FP.i2d p0)), .second, .val (.double (FP.i2d p1)), .second, .val (.ref b151), .unset, .unset, .unset, .unset, .unset] [(.double (FP.i2d p0)), (.ref b155), (.ref b155)] _
        refine XS.dload X155.here hx rfl (hb hby at_95) rfl ?_
        show own_S p e below T155 m 97 #[.val (.int p0), .val (.int p1), .val (.int p2), .val (.int p3), .val (.int p4), .val (.int 1), .val (.int 1), .val (.double (FP.i2d p0)), .second, .val (.double (FP.i2d p1)), .second, .val (.double (FP.i2d p0)), .second, .val (.double (FP.i2d p1)), .second, .val (.ref b151), .unset, .unset, .unset, .unset, .unset] [(.double (FP.i2d p1)), (.double (FP.i2d p0)), (.ref b155), (.ref b155)] _
        refine st157.trans ?_
        show own_S p e below T157 m 100 #[.val (.int p0), .val (.int p1), .val (.int p2), .val (.int p3), .val (.int p4), .val (.int 1), .val (.int 1), .val (.double (FP.i2d p0)), .second, .val (.double (FP.i2d p1)), .second, .val (.double (FP.i2d p0)), .second, .val (.double (FP.i2d p1)), .second, .val (.ref b151), .unset, .unset, .unset, .unset, .unset] [(.ref b155)] _
        refine XS.astore X157.here hx rfl (hb hby at_100) rfl rfl (l' := #[.val (.int p0), .val (.int p1), .val (.int p2), .val (.int p3), .val (.int p4), .val (.int 1), .val (.int 1), .val (.double (FP.i2d p0)), .second, .val (.double (FP.i2d p1)), .second, .val (.double (FP.i2d p0)), .second, .val (.double (FP.i2d p1)), .second, .val (.ref b151), .val (.ref b155), .unset, .unset, .unset, .unset]) rfl ?_
        show own_S p e below T157 m 102 #[.val (.int p0), .val (.int p1), .val (.int p2), .val (.int p3), .val (.int p4), .val (.int 1), .val (.int 1), .val (.double (FP.i2d p0)), .second, .val (.double (FP.i2d p1)), .second, .val (.double (FP.i2d p0)), .second, .val (.double (FP.i2d p1)), .second, .val (.ref b151), .val (.ref b155), .unset, .unset, .unset, .unset] [] _
        refine XS.aload X157.here hx rfl (hb hby at_102) rfl rfl ?_
        show own_S p e below T157 m 104 #[.val (.int p0), .val (.int p1), .val (.int p2), .val (.int p3), .val (.int p4), .val (.int 1), .val (.int 1), .val (.double (FP.i2d p0)), .second, .val (.double (FP.i2d p1)), .second, .val (.double (FP.i2d p0)), .second, .val (.double (FP.i2d p1)), .second, .val (.ref b151), .val (.ref b155), .unset, .unset, .unset, .unset] [(.ref b151)] _
        refine st161.trans ?_
        show own_S p e below T161 m 107 #[.val (.int p0), .val (.int p1), .val (.int p2), .val (.int p3), .val (.int p4), .val (.int 1), .val (.int 1), .val (.double (FP.i2d p0)), .second, .val (.double (FP.i2d p1)), .second, .val (.double (FP.i2d p0)), .second, .val (.double (FP.i2d p1)), .second, .val (.ref b151), .val (.ref b155), .unset, .unset, .unset, .unset] [(.int (own_hash (FP.i2d p0) (FP.i2d p1)))] _
        refine XS.istore X161.here hx rfl (hb hby at_107) rfl (l' := #[.val (.int p0), .val (.int p1), .val (.int p2), .val (.int p3), .val (.int p4), .val (.int 1), .val (.int 1), .val (.double (FP.i2d p0)), .second, .val (.double (FP.i2d p1)), .second, .val (.double (FP.i2d p0)), .second, .val (.double (FP.i2d p1)), .second, .val (.ref b151), .val (.ref b155), .val (.int (own_hash (FP.i2d p0) (FP.i2d p1))), .unset, .unset, .unset]) rfl ?_
        show own_S p e below T161 m 109 #[.val (.int p0), .val (.int p1), .val (.int p2), .val (.int p3), .val (.int p4), .val (.int 1), .val (.int 1), .val (.double (FP.i2d p0)), .second, .val (.double (FP.i2d p1)), .second, .val (.double (FP.i2d p0)), .second, .val (.double (FP.i2d p1)), .second, .val (.ref b151), .val (.ref b155), .val (.int (own_hash (FP.i2d p0) (FP.i2d p1))), .unset, .unset, .unset] [] _
        refine XS.aload X161.here hx rfl (hb hby at_109) rfl rfl ?_
        show own_S p e below T161 m 111 #[.val (.int p0), .val (.int p1), .val (.int p2), .val (.int p3), .val (.int p4), .val (.int 1), .val (.int 1), .val (.double (FP.i2d p0)), .second, .val (.double (FP.i2d p1)), .second, .val (.double (FP.i2d p0)), .second, .val (.double (FP.i2d p1)), .second, .val (.ref b151), .val (.ref b155), .val (.int (own_hash (FP.i2d p0) (FP.i2d p1))), .unset, .unset, .unset] [(.ref b151)] _
        refine st163.trans ?_
        show own_S p e below T163 m 114 #[.val (.int p0), .val (.int p1), .val (.int p2), .val (.int p3), .val (.int p4), .val (.int 1), .val (.int 1), .val (.double (FP.i2d p0)), .second, .val (.double (FP.i2d p1)), .second, .val (.double (FP.i2d p0)), .second, .val (.double (FP.i2d p1)), .second, .val (.ref b151), .val (.ref b155), .val (.int (own_hash (FP.i2d p0) (FP.i2d p1))), .unset, .unset, .unset] [(.int (own_hash (FP.i2d p0) (FP.i2d p1)))] _
        refine XS.istore X163.here hx rfl (hb hby at_114) rfl (l' := #[.val (.int p0), .val (.int p1), .val (.int p2), .val (.int p3), .val (.int p4), .val (.int 1), .val (.int 1), .val (.double (FP.i2d p0)), .second, .val (.double (FP.i2d p1)), .second, .val (.double (FP.i2d p0)), .second, .val (.double (FP.i2d p1)), .second, .val (.ref b151), .val (.ref b155), .val (.int (own_hash (FP.i2d p0) (FP.i2d p1))), .val (.int (own_hash (FP.i2d p0) (FP.i2d p1))), .unset, .unset]) rfl ?_
        show own_S p e below T163 m 116 #[.val (.int p0), .val (.int p1), .val (.int p2), .val (.int p3), .val (.int p4), .val (.int 1), .val (.int 1), .val (.double (FP.i2d p0)), .second, .val (.double (FP.i2d p1)), .second, .val (.double (FP.i2d p0)), .second, .val (.double (FP.i2d p1)), .second, .val (.ref b151), .val (.ref b155), .val (.int (own_hash (FP.i2d p0) (FP.i2d p1))), .val (.int (own_hash (FP.i2d p0) (FP.i2d p1))), .unset, .unset] [] _
        refine XS.aload X163.here hx rfl (hb hby at_116) rfl rfl ?_
        show own_S p e below T163 m 118 #[.val (.int p0), .val (.int p1), .val (.int p2), .val (.int p3), .val (.int p4), .val (.int 1), .val (.int 1), .val (.double (FP.i2d p0)), .second, .val (.double (FP.i2d p1)), .second, .val (.double (FP.i2d p0)), .second, .val (.double (FP.i2d p1)), .second, .val (.ref b151), .val (.ref b155), .val (.int (own_hash (FP.i2d p0) (FP.i2d p1))), .val (.int (own_hash (FP.i2d p0) (FP.i2d p1))), .unset, .unset] [(.ref b155)] _
        refine st164.trans ?_
        show own_S p e below T164 m 121 #[.val (.int p0), .val (.int p1), .val (.int p2), .val (.int p3), .val (.int p4), .val (.int 1), .val (.int 1), .val (.double (FP.i2d p0)), .second, .val (.double (FP.i2d p1)), .second, .val (.double (FP.i2d p0)), .second, .val (.double (FP.i2d p1)), .second, .val (.ref b151), .val (.ref b155), .val (.int (own_hash (FP.i2d p0) (FP.i2d p1))), .val (.int (own_hash (FP.i2d p0) (FP.i2d p1))), .unset, .unset] [(.int (own_hash (FP.i2d p0) (FP.i2d p1)))] _
        refine XS.istore X164.here hx rfl (hb hby at_121) rfl (l' := #[.val (.int p0), .val (.int p1), .val (.int p2), .val (.int p3), .val (.int p4), .val (.int 1), .val (.int 1), .val (.double (FP.i2d p0)), .second, .val (.double (FP.i2d p1)), .second, .val (.double (FP.i2d p0)), .second, .val (.double (FP.i2d p1)), .second, .val (.ref b151), .val (.ref b155), .val (.int (own_hash (FP.i2d p0) (FP.i2d p1))), .val (.int (own_hash (FP.i2d p0) (FP.i2d p1))), .val (.int (own_hash (FP.i2d p0) (FP.i2d p1))), .unset]) rfl ?_
        show own_S p e below T164 m 123 #[.val (.int p0), .val (.int p1), .val (.int p2), .val (.int p3), .val (.int p4), .val (.int 1), .val (.int 1), .val (.double (FP.i2d p0)), .second, .val (.double (FP.i2d p1)), .second, .val (.double (FP.i2d p0)), .second, .val (.double (FP.i2d p1)), .second, .val (.ref b151), .val (.ref b155), .val (.int (own_hash (FP.i2d p0) (FP.i2d p1))), .val (.int (own_hash (FP.i2d p0) (FP.i2d p1))), .val (.int (own_hash (FP.i2d p0) (FP.i2d p1))), .unset] [] _
        refine XS.aload X164.here hx rfl (hb hby at_123) rfl rfl ?_
        show own_S p e below T164 m 125 #[.val (.int p0), .val (.int p1), .val (.int p2), .val (.int p3), .val (.int p4), .val (.int 1), .val (.int 1), .val (.double (FP.i2d p0)), .second, .val (.double (FP.i2d p1)), .second, .val (.double (FP.i2d p0)), .second, .val (.double (FP.i2d p1)), .second, .val (.ref b151), .val (.ref b155), .val (.int (own_hash (FP.i2d p0) (FP.i2d p1))), .val (.int (own_hash (FP.i2d p0) (FP.i2d p1))), .val (.int (own_hash (FP.i2d p0) (FP.i2d p1))), .unset] [(.ref b151)] _
        refine XS.aload X164.here hx rfl (hb hby at_125) rfl rfl ?_
        show own_S p e below T164 m 127 #[.val (.int p0), .val (.int p1), .val (.int p2), .val (.int p3), .val (.int p4), .val (.int 1), .val (.int 1), .val (.double (FP.i2d p0)), .second, .val (.double (FP.i2d p1)), .second, .val (.double (FP.i2d p0)), .second, .val (.double (FP.i2d p1)), .second, .val (.ref b151), .val (.ref b155), .val (.int (own_hash (FP.i2d p0) (FP.i2d p1))), .val (.int (own_hash (FP.i2d p0) (FP.i2d p1))), .val (.int (own_hash (FP.i2d p0) (FP.i2d p1))), .unset] [(.ref b155), (.ref b151)] _
        refine st165.trans ?_
        show own_S p e below T165 m 130 #[.val (.int p0), .val (.int p1), .val (.int p2), .val (.int p3), .val (.int p4), .val (.int 1), .val (.int 1), .val (.double (FP.i2d p0)), .second, .val (.double (FP.i2d p1)), .second, .val (.double (FP.i2d p0)), .second, .val (.double (FP.i2d p1)), .second, .val (.ref b151), .val (.ref b155), .val (.int (own_hash (FP.i2d p0) (FP.i2d p1))), .val (.int (own_hash (FP.i2d p0) (FP.i2d p1))), .val (.int (own_hash (FP.i2d p0) (FP.i2d p1))), .unset] [(.int (own_eq (FP.i2d p0) (FP.i2d p1) (FP.i2d p0) (FP.i2d p1)))] _
        refine reI (own_eqS ((i2d_fin _).noNaN) ((i2d_fin _).noNaN) : (own_eq (FP.i2d p0) (FP.i2d p1) (FP.i2d p0) (FP.i2d p1)) = (1 : Int32)) ?_
        show own_S p e below T165 m 130 #[.val (.int p0), .val (.int p1), .val (.int p2), .val (.int p3), .val (.int p4), .val (.int 1), .val (.int 1), .val (.double (FP.i2d p0)), .second, .val (.double (FP.i2d p1)), .second, .val (.double (FP.i2d p0)), .second, .val (.double (FP.i2d p1)), .second, .val (.ref b151), .val (.ref b155), .val (.int (own_hash (FP.i2d p0) (FP.i2d p1))), .val (.int (own_hash (FP.i2d p0) (FP.i2d p1))), .val (.int (own_hash (FP.i2d p0) (FP.i2d p1))), .unset] [(.int 1)] _
        refine XS.istore X165.here hx rfl (hb hby at_130) rfl (l' := #[.val (.int p0), .val (.int p1), .val (.int p2), .val (.int p3), .val (.int p4), .val (.int 1), .val (.int 1), .val (.double (FP.i2d p0)), .second, .val (.double (FP.i2d p1)), .second, .val (.double (FP.i2d p0)), .second, .val (.double (FP.i2d p1)), .second, .val (.ref b151), .val (.ref b155), .val (.int (own_hash (FP.i2d p0) (FP.i2d p1))), .val (.int (own_hash (FP.i2d p0) (FP.i2d p1))), .val (.int (own_hash (FP.i2d p0) (FP.i2d p1))), .val (.int 1)]) rfl ?_
        show own_S p e below T165 m 132 #[.val (.int p0), .val (.int p1), .val (.int p2), .val (.int p3), .val (.int p4), .val (.int 1), .val (.int 1), .val (.double (FP.i2d p0)), .second, .val (.double (FP.i2d p1)), .second, .val (.double (FP.i2d p0)), .second, .val (.double (FP.i2d p1)), .second, .val (.ref b151), .val (.ref b155), .val (.int (own_hash (FP.i2d p0) (FP.i2d p1))), .val (.int (own_hash (FP.i2d p0) (FP.i2d p1))), .val (.int (own_hash (FP.i2d p0) (FP.i2d p1))), .val (.int 1)] [] _
        refine XS.iload X165.here hx rfl (hb hby at_132) rfl ?_
        show own_S p e below T165 m 134 #[.val (.int p0), .val (.int p1), .val (.int p2), .val (.int p3), .val (.int p4), .val (.int 1), .val (.int 1), .val (.double (FP.i2d p0)), .second, .val (.double (FP.i2d p1)), .second, .val (.double (FP.i2d p0)), .second, .val (.double (FP.i2d p1)), .second, .val (.ref b151), .val (.ref b155), .val (.int (own_hash (FP.i2d p0) (FP.i2d p1))), .val (.int (own_hash (FP.i2d p0) (FP.i2d p1))), .val (.int (own_hash (FP.i2d p0) (FP.i2d p1))), .val (.int 1)] [(.int (own_hash (FP.i2d p0) (FP.i2d p1)))] _
        refine XS.iload X165.here hx rfl (hb hby at_134) rfl ?_
        show own_S p e below T165 m 136 #[.val (.int p0), .val (.int p1), .val (.int p2), .val (.int p3), .val (.int p4), .val (.int 1), .val (.int 1), .val (.double (FP.i2d p0)), .second, .val (.double (FP.i2d p1)), .second, .val (.double (FP.i2d p0)), .second, .val (.double (FP.i2d p1)), .second, .val (.ref b151), .val (.ref b155), .val (.int (own_hash (FP.i2d p0) (FP.i2d p1))), .val (.int (own_hash (FP.i2d p0) (FP.i2d p1))), .val (.int (own_hash (FP.i2d p0) (FP.i2d p1))), .val (.int 1)] [(.int (own_hash (FP.i2d p0) (FP.i2d p1))), (.int (own_hash (FP.i2d p0) (FP.i2d p1)))] _
        refine XS.icmpYes X165.here hx rfl (pc0 := 136) (pc' := 141) rfl (hb hby at_136) rfl (teq (rfl : (own_hash (FP.i2d p0) (FP.i2d p1)) = (own_hash (FP.i2d p0) (FP.i2d p1)))).1 (by decide) (by decide) ?_
        show own_S p e below T165 m 141 #[.val (.int p0), .val (.int p1), .val (.int p2), .val (.int p3), .val (.int p4), .val (.int 1), .val (.int 1), .val (.double (FP.i2d p0)), .second, .val (.double (FP.i2d p1)), .second, .val (.double (FP.i2d p0)), .second, .val (.double (FP.i2d p1)), .second, .val (.ref b151), .val (.ref b155), .val (.int (own_hash (FP.i2d p0) (FP.i2d p1))), .val (.int (own_hash (FP.i2d p0) (FP.i2d p1))), .val (.int (own_hash (FP.i2d p0) (FP.i2d p1))), .val (.int 1)] [] _
        refine XS.iload X165.here hx rfl (hb hby at_141) rfl ?_
        show own_S p e below T165 m 143 #[.val (.int p0), .val (.int p1), .val (.int p2), .val (.int p3), .val (.int p4), .val (.int 1), .val (.int 1), .val (.double (FP.i2d p0)), .second, .val (.double (FP.i2d p1)), .second, .val (.double (FP.i2d p0)), .second, .val (.double (FP.i2d p1)), .second, .val (.ref b151), .val (.ref b155), .val (.int (own_hash (FP.i2d p0) (FP.i2d p1))), .val (.int (own_hash (FP.i2d p0) (FP.i2d p1))), .val (.int (own_hash (FP.i2d p0) (FP.i2d p1))), .val (.int 1)] [(.int 1)] _
        refine XS.ifNo X165.here hx rfl (hb hby at_143) rfl ((if0 _ _).trans (feq (by decide : ¬ ((1 : Int32) = (0 : Int32)))).1) ?_
        show own_S p e below T165 m 146 #[.val (.int p0), .val (.int p1), .val (.int p2), .val (.int p3), .val (.int p4), .val (.int 1), .val (.int 1), .val (.double (FP.i2d p0)), .second, .val (.double (FP.i2d p1)), .second, .val (.double (FP.i2d p0)), .second, .val (.double (FP.i2d p1)), .second, .val (.ref b151), .val (.ref b155), .val (.int (own_hash (FP.i2d p0) (FP.i2d p1))), .val (.int (own_hash (FP.i2d p0) (FP.i2d p1))), .val (.int (own_hash (FP.i2d p0) (FP.i2d p1))), .val (.int 1)] [] _
        refine XS.iload X165.here hx rfl (hb hby at_146) rfl ?_
        show own_S p e below T165 m 148 #[.val (.int p0), .val (.int p1), .val (.int p2), .val (.int p3), .val (.int p4), .val (.int 1), .val (.int 1), .val (.double (FP.i2d p0)), .second, .val (.double (FP.i2d p1)), .second, .val (.double (FP.i2d p0)), .second, .val (.double (FP.i2d p1)), .second, .val (.ref b151), .val (.ref b155), .val (.int (own_hash (FP.i2d p0) (FP.i2d p1))), .val (.int (own_hash (FP.i2d p0) (FP.i2d p1))), .val (.int (own_hash (FP.i2d p0) (FP.i2d p1))), .val (.int 1)] [(.int 1)] _
        refine XS.ifYes X165.here hx rfl (pc0 := 148) (pc' := 153) rfl (hb hby at_148) rfl ((if0 _ _).trans (feq (by decide : ¬ ((1 : Int32) = (0 : Int32)))).2) (by decide) (by decide) ?_
        show own_S p e below T165 m 153 #[.val (.int p0), .val (.int p1), .val (.int p2), .val (.int p3), .val (.int p4), .val (.int 1), .val (.int 1), .val (.double (FP.i2d p0)), .second, .val (.double (FP.i2d p1)), .second, .val (.double (FP.i2d p0)), .second, .val (.double (FP.i2d p1)), .second, .val (.ref b151), .val (.ref b155), .val (.int (own_hash (FP.i2d p0) (FP.i2d p1))), .val (.int (own_hash (FP.i2d p0) (FP.i2d p1))), .val (.int (own_hash (FP.i2d p0) (FP.i2d p1))), .val (.int 1)] [] _
        refine XS.iload X165.here hx rfl (hb hby at_153) rfl ?_
        show own_S p e below T165 m 155 #[.val (.int p0), .val (.int p1), .val (.int p2), .val (.int p3), .val (.int p4), .val (.int 1), .val (.int 1), .val (.double (FP.i2d p0)), .second, .val (.double (FP.i2d p1)), .second, .val (.double (FP.i2d p0)), .second, .val (.double (FP.i2d p1)), .second, .val (.ref b151), .val (.ref b155), .val (.int (own_hash (FP.i2d p0) (FP.i2d p1))), .val (.int (own_hash (FP.i2d p0) (FP.i2d p1))), .val (.int (own_hash (FP.i2d p0) (FP.i2d p1))), .val (.int 1)] [(.int 1)] _
        refine XS.ifNo X165.here hx rfl (hb hby at_155) rfl ((if0 _ _).trans (feq (by decide : ¬ ((1 : Int32) = (0 : Int32)))).1) ?_
        show own_S p e below T165 m 158 #[.val (.int p0), .val (.int p1), .val (.int p2), .val (.int p3), .val (.int p4), .val (.int 1), .val (.int 1), .val (.double (FP.i2d p0)), .second, .val (.double (FP.i2d p1)), .second, .val (.double (FP.i2d p0)), .second, .val (.double (FP.i2d p1)), .second, .val (.ref b151), .val (.ref b155), .val (.int (own_hash (FP.i2d p0) (FP.i2d p1))), .val (.int (own_hash (FP.i2d p0) (FP.i2d p1))), .val (.int (own_hash (FP.i2d p0) (FP.i2d p1))), .val (.int 1)] [] _
        refine XS.iload X165.here hx rfl (hb hby at_158) rfl ?_
        show own_S p e below T165 m 160 #[.val (.int p0), .val (.int p1), .val (.int p2), .val (.int p3), .val (.int p4), .val (.int 1), .val (.int 1), .val (.double (FP.i2d p0)), .second, .val (.double (FP.i2d p1)), .second, .val (.double (FP.i2d p0)), .second, .val (.double (FP.i2d p1)), .second, .val (.ref b151), .val (.ref b155), .val (.int (own_hash (FP.i2d p0) (FP.i2d p1))), .val (.int (own_hash (FP.i2d p0) (FP.i2d p1))), .val (.int (own_hash (FP.i2d p0) (FP.i2d p1))), .val (.int 1)] [(.int (own_hash (FP.i2d p0) (FP.i2d p1)))] _
        refine XS.iload X165.here hx rfl (hb hby at_160) rfl ?_
        show own_S p e below T165 m 162 #[.val (.int p0), .val (.int p1), .val (.int p2), .val (.int p3), .val (.int p4), .val (.int 1), .val (.int 1), .val (.double (FP.i2d p0)), .second, .val (.double (FP.i2d p1)), .second, .val (.double (FP.i2d p0)), .second, .val (.double (FP.i2d p1)), .second, .val (.ref b151), .val (.ref b155), .val (.int (own_hash (FP.i2d p0) (FP.i2d p1))), .val (.int (own_hash (FP.i2d p0) (FP.i2d p1))), .val (.int (own_hash (FP.i2d p0) (FP.i2d p1))), .val (.int 1)] [(.int (own_hash (FP.i2d p0) (FP.i2d p1))), (.int (own_hash (FP.i2d p0) (FP.i2d p1)))] _
        refine XS.icmpNo X165.here hx rfl (hb hby at_162) rfl (teq (rfl : (own_hash (FP.i2d p0) (FP.i2d p1)) = (own_hash (FP.i2d p0) (FP.i2d p1)))).2 ?_
        show own_S p e below T165 m 165 #[.val (.int p0), .val (.int p1), .val (.int p2), .val (.int p3), .val (.int p4), .val (.int 1), .val (.int 1), .val (.double (FP.i2d p0)), .second, .val (.double (FP.i2d p1)), .second, .val (.double (FP.i2d p0)), .second, .val (.double (FP.i2d p1)), .second, .val (.ref b151), .val (.ref b155), .val (.int (own_hash (FP.i2d p0) (FP.i2d p1))), .val (.int (own_hash (FP.i2d p0) (FP.i2d p1))), .val (.int (own_hash (FP.i2d p0) (FP.i2d p1))), .val (.int 1)] [] _
        refine XS.iconst X165.here hx rfl (hb hby at_165) ?_
        show own_S p e below T165 m 166 #[.val (.int p0), .val (.int p1), .val (.int p2), .val (.int p3), .val (.int p4), .val (.int 1), .val (.int 1), .val (.double (FP.i2d p0)), .second, .val (.double (FP.i2d p1)), .second, .val (.double (FP.i2d p0)), .second, .val (.double (FP.i2d p1)), .second, .val (.ref b151), .val (.ref b155), .val (.int (own_hash (FP.i2d p0) (FP.i2d p1))), .val (.int (own_hash (FP.i2d p0) (FP.i2d p1))), .val (.int (own_hash (FP.i2d p0) (FP.i2d p1))), .val (.int 1)] [(.int 1)] _
        refine XS.goto X165.here hx rfl (pc0 := 166) (pc' := 170) rfl (hb hby at_166) (by decide) (by decide) ?_
        show own_S p e below T165 m 170 #[.val (.int p0), .val (.int p1), .val (.int p2), .val (.int p3), .val (.int p4), .val (.int 1), .val (.int 1), .val (.double (FP.i2d p0)), .second, .val (.double (FP.i2d p1)), .second, .val (.double (FP.i2d p0)), .second, .val (.double (FP.i2d p1)), .second, .val (.ref b151), .val (.ref b155), .val (.int (own_hash (FP.i2d p0) (FP.i2d p1))), .val (.int (own_hash (FP.i2d p0) (FP.i2d p1))), .val (.int (own_hash (FP.i2d p0) (FP.i2d p1))), .val (.int 1)] [(.int 1)] _
        exact retN X165 hx (t := .boolean) Bd.returns (by simp) (hb hby at_170) hr
      · show Qm0 Z p0 p1 p2 p3 p4 h0 n0 _ T165.heap _
        rw [P165_0]
        exact ⟨rfl, N165⟩
set_option maxRecDepth 65536 in
set_option maxHeartbeats 40000000 in
theorem comes_1 {Post : Tables → Env → Array Value → State → Outcome → State → Prop} (hpost : ∀ tb e args s v u, (limb_1_1.after args s (.returned v) u = true ∧ limb_1_2.after args s (.returned v) u = true ∧ True) → FrameEnd s (.returned v) u (Jvm.fieldLocs frame_1_writes args s ++ Jvm.arrayLocs frame_1_arrays args s ++ Jvm.staticLocs frame_1_statics s) 16 128 → Post tb e args s (.returned v) u) :
    ArmFor flags0 classFile x code maxLocals ret World_1 tables_1 room_1 Calls_1 rest_1 Pre_1 Post := by
  intro l hfl _ _ p e ha hc hk s m args below hf hA hF happ hP
  obtain ⟨hcalls, hrest, hpre⟩ := hP
  obtain ⟨-, -, -, hnamed, -, -, -, hat⟩ := (Spec.applies_iff hf).mp happ
  obtain ⟨hg, hn⟩ := and_e (Cond.before_iff.mp (show (Jvm.Cond.and given_1 narrow_1).before args s = true from hpre))
  obtain ⟨hcount, hg0⟩ := and_e hg
  obtain ⟨hv0, hg1⟩ := and_e hg0
  obtain ⟨hv1, hg2⟩ := and_e hg1
  obtain ⟨hv2, hg3⟩ := and_e hg2
  obtain ⟨hv3, hg4⟩ := and_e hg3
  obtain ⟨w0, w1, w2, w3, w4, rfl⟩ : ∃ w0 w1 w2 w3 w4 : Value, args = #[w0, w1, w2, w3, w4] := by
    have hs : args.size = 5 := by simpa [Cond.value, given_1] using hcount
    obtain ⟨L⟩ := args
    match L, hs with
    | [w0, w1, w2, w3, w4], _ => exact ⟨w0, w1, w2, w3, w4, rfl⟩
  have hw := fun d (hd : d ∈ tables_1) => atoms_spec (ws := Jvm.Cond.code x code maxLocals ret :: tables_1) hat d (List.mem_cons_of_mem _ hd)
  have hfit : Fit s := fun {y c} hc i hi => by
    obtain ⟨ha, rfl⟩ := Array.getElem?_eq_some_iff.mp hc
    have q := List.all_eq_true.mp ((Array.all_eq_true_iff_forall_mem.mp hF) _ (Array.getElem_mem ha)) i (List.mem_range.mpr hi)
    simpa [Array.getElem?_eq_getElem hi] using q
  obtain ⟨i0, ei0⟩ := is_v hv0
  obtain rfl : w0 = (.int i0) := Option.some.inj ei0
  obtain ⟨i1, ei1⟩ := is_v hv1
  obtain rfl : w1 = (.int i1) := Option.some.inj ei1
  obtain ⟨i2, ei2⟩ := is_v hv2
  obtain rfl : w2 = (.int i2) := Option.some.inj ei2
  obtain ⟨i3, ei3⟩ := is_v hv3
  obtain rfl : w3 = (.int i3) := Option.some.inj ei3
  obtain ⟨i4, ei4⟩ := is_v hg4
  obtain rfl : w4 = (.int i4) := Option.some.inj ei4
  obtain ⟨n, o, h1, h2, h3, _, L, rfl, ⟨rfl, N⟩, hq⟩ := rmm0 l s _ hw tables_1 i0 i1 i2 i3 i4 s.heap s.heap.size (Nat.le_refl _)  p e ha hc hk s m _ below hf ((Spec.applies_iff_loose hf).mp happ).1 ⟨rfl, State.Warmed39.refl s, rfl⟩ trivial
  refine ⟨n, _, h1, h2, h3, hpost _ _ _ _ _ _ ⟨Cond.after_iff.mpr rfl, Cond.after_iff.mpr (eq_i res_at (Term.int_eval (1)) rfl), trivial⟩ ⟨hq.1, hq.2.1, (hq.2.2.sift fun y hy => Or.inr (N y hy)).mono (by decide) (by decide)⟩⟩
theorem main_1_1 : Claimed_1_1 := comes_1 fun _ _ _ _ _ _ h hF => ⟨h.1, hF⟩
theorem main_1_2 : Claimed_1_2 := comes_1 fun _ _ _ _ _ _ h hF => ⟨h.2.1, hF⟩
end Jvm.Pilot.@@N@@
namespace Jvm.Pilot.@@N@@
open Jvm Jvm.ClassFile Sem Op Lib Jvm.Free Jvm.Stand Jvm.Pilot.@@N@@.Jvm.D
/-! MADE BY PROGRAM (witnessworld.py) out of the Statement's table words and the real class files: 16 classes; the members and pool entries that the words name. The judged class is class 1, her method 1. -/
namespace start1
open Jvm.ClassFile
def u (s : String) : CpInfo := .utf8 (stringToUtf16 s)
/-- a pool by its gaps: so many unusable entries, then the entry; so many at the end -/
def gap : Nat → List CpInfo → List CpInfo
  | 0, r => r
  | n + 1, r => .unusable :: gap n r
def poolList (es : List (Nat × CpInfo)) (last : Nat) : List CpInfo := es.foldr (fun e r => gap e.1 (e.2 :: r)) (gap last [])
def pool (es : List (Nat × CpInfo)) (last : Nat) : Array CpInfo := ⟨poolList es last⟩
def fileOf (pool : Array CpInfo) (this : Nat) (attrs : Array Attribute := #[]) (ms : Array MethodInfo := #[]) (fl : Nat := 33) (sup : Nat := 0) (ifs : Array Nat := #[]) (fds : Array FieldInfo := #[]) : ClassFile where
  minorVersion := 0
  majorVersion := 65
  constantPool := pool
  accessFlags := fl
  thisClass := this
  superClass := sup
  interfaces := ifs
  fields := fds
  methods := ms
  attributes := attrs
def plain (name : String) (sup : Option ClassId) : Class where
  name := name
  kind := .ordinary
  loader := none
  accessFlags := 33
  super := sup
  interfaces := #[]
  cf := none
  fields := #[]
  methods := #[]
  instanceTypes := #[]
  staticTypes := #[]
  resolved := #[]
  callSites := []
  init := .initialized
  statics := none
  mirror := none

def pool0 : Array CpInfo := pool [(5, u "<init>"), (0, u "()V"), (1, .class_ 10), (1, u "java/lang/Object")] 113

def k0c0 : Code := { maxStack := 0, maxLocals := 1, code := object_method_1_code, exceptionTable := #[], attributes := #[] }
def k0m0 : Method := { name := "<init>", desc := "()V", sig := { parameters := [], returnType := none }, accessFlags := 1, code := some k0c0 }
/-- java/lang/Object -/
def k0 : Class := { plain "java/lang/Object" none with
  accessFlags := 33
  interfaces := #[]
  cf := some (fileOf pool0 8 #[] #[{ accessFlags := 1, nameIndex := 5, descriptorIndex := 6, attributes := #[] }] 33 0 #[] #[])
  fields := #[]
  methods := #[k0m0]
  instanceTypes := #[]
  staticTypes := #[]
  resolved := Array.replicate 124 none
  statics := none }

def pool1 : Array CpInfo := pool [(2, .class_ 4), (1, u "java/lang/Object"), (0, u "<init>"), (0, u "()V"), (0, .class_ 8), (0, u "com/example/minisum/minisum/Point"), (0, .methodref 7 10), (0, .nameAndType 5 11), (0, u "(DD)V"), (0, .methodref 7 13), (0, .nameAndType 14 15), (0, u "hashCode"), (0, u "()I"), (0, .methodref 7 17), (0, .nameAndType 18 19), (0, u "equals"), (0, u "(Ljava/lang/Object;)Z"), (0, .class_ 21), (0, u "com/example/minisum/minisum/PointHashCodePinLaw"), (2, u "law"), (0, u "(IIIII)Z")] 3

def k1m0 : Method := { name := "<init>", desc := "()V", sig := { parameters := [], returnType := none }, accessFlags := 1, code := none }
def k1c1 : Code := { maxStack := 6, maxLocals := 21, code := code, exceptionTable := #[], attributes := #[] }
def k1m1 : Method := { name := "law", desc := "(IIIII)Z", sig := { parameters := [.int, .int, .int, .int, .int], returnType := some .boolean }, accessFlags := 9, code := some k1c1 }
/-- com/example/minisum/minisum/PointHashCodePinLaw -/
def k1 : Class := { plain "com/example/minisum/minisum/PointHashCodePinLaw" (some 0) with
  accessFlags := 49
  interfaces := #[]
  cf := some (fileOf pool1 20 #[] #[{ accessFlags := 1, nameIndex := 5, descriptorIndex := 6, attributes := #[] }, { accessFlags := 9, nameIndex := 24, descriptorIndex := 25, attributes := #[] }] 49 2 #[] #[])
  fields := #[]
  methods := #[k1m0, k1m1]
  instanceTypes := #[]
  staticTypes := #[]
  resolved := Array.replicate 29 none
  statics := none }

def pool2 : Array CpInfo := pool [(1, .methodref 2 3), (0, .class_ 4), (0, .nameAndType 5 6), (0, u "java/lang/Object"), (0, u "<init>"), (0, u "()V"), (0, .methodref 8 9), (0, .class_ 10), (0, .nameAndType 11 12), (0, u "java/lang/Double"), (0, u "isFinite"), (0, u "(D)Z"), (9, .fieldref 23 24), (0, .class_ 25), (0, .nameAndType 26 27), (0, u "com/example/minisum/minisum/Point"), (0, u "x"), (0, u "D"), (0, .fieldref 23 29), (0, .nameAndType 30 27), (0, u "y"), (9, .methodref 8 41), (0, .nameAndType 42 43), (0, u "compare"), (0, u "(DD)I"), (0, .methodref 8 45), (0, .nameAndType 46 47), (0, u "hashCode"), (0, u "(D)I"), (1, u "(DD)V"), (8, u "equals"), (0, u "(Ljava/lang/Object;)Z"), (0, u "()I")] 23

def k2c0 : Code := { maxStack := 6, maxLocals := 5, code := prog_17_method_1_code, exceptionTable := #[], attributes := #[] }
def k2m0 : Method := { name := "<init>", desc := "(DD)V", sig := { parameters := [.double, .double], returnType := none }, accessFlags := 1, code := some k2c0 }
def k2c1 : Code := { maxStack := 4, maxLocals := 2, code := prog_17_method_5_code, exceptionTable := #[], attributes := #[] }
def k2m1 : Method := { name := "equals", desc := "(Ljava/lang/Object;)Z", sig := { parameters := [(.object "java/lang/Object")], returnType := some .boolean }, accessFlags := 1, code := some k2c1 }
def k2c2 : Code := { maxStack := 3, maxLocals := 1, code := prog_17_method_6_code, exceptionTable := #[], attributes := #[] }
def k2m2 : Method := { name := "hashCode", desc := "()I", sig := { parameters := [], returnType := some .int }, accessFlags := 1, code := some k2c2 }
/-- com/example/minisum/minisum/Point -/
def k2 : Class := { plain "com/example/minisum/minisum/Point" (some 0) with
  accessFlags := 49
  interfaces := #[]
  cf := some (fileOf pool2 23 #[] #[{ accessFlags := 1, nameIndex := 5, descriptorIndex := 49, attributes := #[] }, { accessFlags := 1, nameIndex := 58, descriptorIndex := 59, attributes := #[] }, { accessFlags := 1, nameIndex := 46, descriptorIndex := 60, attributes := #[] }] 49 2 #[] #[{ accessFlags := 18, nameIndex := 26, descriptorIndex := 27, attributes := #[] }, { accessFlags := 18, nameIndex := 30, descriptorIndex := 27, attributes := #[] }])
  fields := #[{ name := "x", type := .double, accessFlags := 18, slot := 0, constantValue := 0 }, { name := "y", type := .double, accessFlags := 18, slot := 1, constantValue := 0 }]
  methods := #[k2m0, k2m1, k2m2]
  instanceTypes := #[.double, .double]
  staticTypes := #[]
  resolved := Array.replicate 84 none
  statics := none }

def pool3 : Array CpInfo := pool [(1, .class_ 2), (0, u "java/io/Serializable"), (0, .class_ 4), (0, u "java/lang/Object")] 2

/-- java/io/Serializable -/
def k3 : Class := { plain "java/io/Serializable" (some 0) with
  accessFlags := 1537
  interfaces := #[]
  cf := some (fileOf pool3 1 #[] #[] 1537 3 #[] #[])
  fields := #[]
  methods := #[]
  instanceTypes := #[]
  staticTypes := #[]
  resolved := Array.replicate 7 none
  statics := none }

def pool4 : Array CpInfo := pool [(2, .class_ 4), (1, u "java/lang/Object"), (0, u "<init>"), (0, u "()V"), (1, .class_ 10), (1, u "java/lang/Number"), (2, .class_ 14), (0, u "java/io/Serializable"), (0, u "serialVersionUID"), (0, u "J")] 20

def k4m0 : Method := { name := "<init>", desc := "()V", sig := { parameters := [], returnType := none }, accessFlags := 1, code := none }
/-- java/lang/Number -/
def k4 : Class := { plain "java/lang/Number" (some 0) with
  accessFlags := 1057
  interfaces := #[3]
  cf := some (fileOf pool4 8 #[] #[{ accessFlags := 1, nameIndex := 5, descriptorIndex := 6, attributes := #[] }] 1057 2 #[13] #[{ accessFlags := 26, nameIndex := 15, descriptorIndex := 16, attributes := #[] }])
  fields := #[{ name := "serialVersionUID", type := .long, accessFlags := 26, slot := 0, constantValue := 0 }]
  methods := #[k4m0]
  instanceTypes := #[]
  staticTypes := #[.long]
  resolved := Array.replicate 37 none
  statics := none }

def pool5 : Array CpInfo := pool [(1, .class_ 2), (0, u "java/lang/Comparable"), (0, .class_ 4), (0, u "java/lang/Object")] 7

/-- java/lang/Comparable -/
def k5 : Class := { plain "java/lang/Comparable" (some 0) with
  accessFlags := 1537
  interfaces := #[]
  cf := some (fileOf pool5 1 #[] #[] 1537 3 #[] #[])
  fields := #[]
  methods := #[]
  instanceTypes := #[]
  staticTypes := #[]
  resolved := Array.replicate 12 none
  statics := none }

def pool6 : Array CpInfo := pool [(1, .class_ 2), (0, u "java/lang/constant/Constable"), (0, .class_ 4), (0, u "java/lang/Object")] 6

/-- java/lang/constant/Constable -/
def k6 : Class := { plain "java/lang/constant/Constable" (some 0) with
  accessFlags := 1537
  interfaces := #[]
  cf := some (fileOf pool6 1 #[] #[] 1537 3 #[] #[])
  fields := #[]
  methods := #[]
  instanceTypes := #[]
  staticTypes := #[]
  resolved := Array.replicate 11 none
  statics := none }

def pool7 : Array CpInfo := pool [(1, .class_ 2), (0, u "java/lang/constant/ConstantDesc"), (0, .class_ 4), (0, u "java/lang/Object")] 32

/-- java/lang/constant/ConstantDesc -/
def k7 : Class := { plain "java/lang/constant/ConstantDesc" (some 0) with
  accessFlags := 1537
  interfaces := #[]
  cf := some (fileOf pool7 1 #[] #[] 1537 3 #[] #[])
  fields := #[]
  methods := #[]
  instanceTypes := #[]
  staticTypes := #[]
  resolved := Array.replicate 37 none
  statics := none }

def pool8 : Array CpInfo := pool [(1, .class_ 2), (0, u "java/lang/Double"), (10, u "isFinite"), (0, u "(D)Z"), (8, .class_ 25), (1, u "java/lang/Math"), (12, .methodref 23 39), (0, .nameAndType 40 41), (0, u "abs"), (0, u "(D)D"), (4, .methodref 1 47), (0, .nameAndType 48 49), (0, u "doubleToLongBits"), (0, u "(D)J"), (11, .class_ 63), (1, u "java/lang/Long"), (30, u "(D)I"), (16, .double 9218868437227405311), (2, .class_ 116), (1, u "java/lang/Number"), (3, u "value"), (0, u "D"), (0, .methodref 1 123), (0, .nameAndType 124 14), (0, u "isNaN"), (5, u "hashCode"), (0, .methodref 61 132), (0, .nameAndType 130 133), (0, u "(J)I"), (0, .methodref 1 135), (0, .nameAndType 136 49), (0, u "doubleToRawLongBits"), (4, u "compare"), (0, u "(DD)I"), (30, u "TYPE"), (0, u "Ljava/lang/Class;"), (0, .class_ 176), (0, u "java/lang/Comparable"), (0, .class_ 178), (0, u "java/lang/constant/Constable"), (0, .class_ 180), (0, u "java/lang/constant/ConstantDesc"), (0, u "POSITIVE_INFINITY"), (3, u "NEGATIVE_INFINITY"), (2, u "NaN"), (2, u "MAX_VALUE"), (0, u "MIN_NORMAL"), (0, u "MIN_VALUE"), (2, u "SIZE"), (0, u "I"), (1, u "PRECISION"), (1, u "MAX_EXPONENT"), (1, u "MIN_EXPONENT"), (1, u "BYTES"), (3, u "serialVersionUID"), (0, u "J")] 79

def k8c0 : Code := { maxStack := 4, maxLocals := 2, code := jdk_117_method_6_code, exceptionTable := #[], attributes := #[] }
def k8m0 : Method := { name := "isNaN", desc := "(D)Z", sig := { parameters := [.double], returnType := some .boolean }, accessFlags := 9, code := some k8c0 }
def k8c1 : Code := { maxStack := 4, maxLocals := 2, code := jdk_117_method_8_code, exceptionTable := #[], attributes := #[] }
def k8m1 : Method := { name := "isFinite", desc := "(D)Z", sig := { parameters := [.double], returnType := some .boolean }, accessFlags := 9, code := some k8c1 }
def k8c2 : Code := { maxStack := 2, maxLocals := 2, code := jdk_117_method_21_code, exceptionTable := #[], attributes := #[] }
def k8m2 : Method := { name := "hashCode", desc := "(D)I", sig := { parameters := [.double], returnType := some .int }, accessFlags := 9, code := some k8c2 }
def k8c3 : Code := { maxStack := 2, maxLocals := 2, code := jdk_117_method_23_code, exceptionTable := #[], attributes := #[] }
def k8m3 : Method := { name := "doubleToLongBits", desc := "(D)J", sig := { parameters := [.double], returnType := some .long }, accessFlags := 9, code := some k8c3 }
def k8m4 : Method := { name := "doubleToRawLongBits", desc := "(D)J", sig := { parameters := [.double], returnType := some .long }, accessFlags := 265, code := none }
def k8c5 : Code := { maxStack := 4, maxLocals := 8, code := jdk_117_method_27_code, exceptionTable := #[], attributes := #[] }
def k8m5 : Method := { name := "compare", desc := "(DD)I", sig := { parameters := [.double, .double], returnType := some .int }, accessFlags := 9, code := some k8c5 }
/-- java/lang/Double -/
def k8 : Class := { plain "java/lang/Double" (some 4) with
  accessFlags := 49
  interfaces := #[5, 6, 7]
  cf := some (fileOf pool8 1 #[] #[{ accessFlags := 9, nameIndex := 124, descriptorIndex := 14, attributes := #[] }, { accessFlags := 9, nameIndex := 13, descriptorIndex := 14, attributes := #[] }, { accessFlags := 9, nameIndex := 130, descriptorIndex := 94, attributes := #[] }, { accessFlags := 9, nameIndex := 48, descriptorIndex := 49, attributes := #[] }, { accessFlags := 265, nameIndex := 136, descriptorIndex := 49, attributes := #[] }, { accessFlags := 9, nameIndex := 141, descriptorIndex := 142, attributes := #[] }] 49 114 #[175, 177, 179] #[{ accessFlags := 25, nameIndex := 181, descriptorIndex := 121, attributes := #[] }, { accessFlags := 25, nameIndex := 185, descriptorIndex := 121, attributes := #[] }, { accessFlags := 25, nameIndex := 188, descriptorIndex := 121, attributes := #[] }, { accessFlags := 25, nameIndex := 191, descriptorIndex := 121, attributes := #[] }, { accessFlags := 25, nameIndex := 192, descriptorIndex := 121, attributes := #[] }, { accessFlags := 25, nameIndex := 193, descriptorIndex := 121, attributes := #[] }, { accessFlags := 25, nameIndex := 196, descriptorIndex := 197, attributes := #[] }, { accessFlags := 25, nameIndex := 199, descriptorIndex := 197, attributes := #[] }, { accessFlags := 25, nameIndex := 201, descriptorIndex := 197, attributes := #[] }, { accessFlags := 25, nameIndex := 203, descriptorIndex := 197, attributes := #[] }, { accessFlags := 25, nameIndex := 205, descriptorIndex := 197, attributes := #[] }, { accessFlags := 25, nameIndex := 173, descriptorIndex := 174, attributes := #[] }, { accessFlags := 18, nameIndex := 120, descriptorIndex := 121, attributes := #[] }, { accessFlags := 26, nameIndex := 209, descriptorIndex := 210, attributes := #[] }])
  fields := #[{ name := "POSITIVE_INFINITY", type := .double, accessFlags := 25, slot := 0, constantValue := 0 }, { name := "NEGATIVE_INFINITY", type := .double, accessFlags := 25, slot := 1, constantValue := 0 }, { name := "NaN", type := .double, accessFlags := 25, slot := 2, constantValue := 0 }, { name := "MAX_VALUE", type := .double, accessFlags := 25, slot := 3, constantValue := 0 }, { name := "MIN_NORMAL", type := .double, accessFlags := 25, slot := 4, constantValue := 0 }, { name := "MIN_VALUE", type := .double, accessFlags := 25, slot := 5, constantValue := 0 }, { name := "SIZE", type := .int, accessFlags := 25, slot := 6, constantValue := 0 }, { name := "PRECISION", type := .int, accessFlags := 25, slot := 7, constantValue := 0 }, { name := "MAX_EXPONENT", type := .int, accessFlags := 25, slot := 8, constantValue := 0 }, { name := "MIN_EXPONENT", type := .int, accessFlags := 25, slot := 9, constantValue := 0 }, { name := "BYTES", type := .int, accessFlags := 25, slot := 10, constantValue := 0 }, { name := "TYPE", type := (.object "java/lang/Class"), accessFlags := 25, slot := 11, constantValue := 0 }, { name := "value", type := .double, accessFlags := 18, slot := 0, constantValue := 0 }, { name := "serialVersionUID", type := .long, accessFlags := 26, slot := 12, constantValue := 0 }]
  methods := #[k8m0, k8m1, k8m2, k8m3, k8m4, k8m5]
  instanceTypes := #[.double]
  staticTypes := #[.double, .double, .double, .double, .double, .double, .int, .int, .int, .int, .int, (.object "java/lang/Class"), .long]
  resolved := Array.replicate 290 none
  statics := none }

def pool9 : Array CpInfo := pool [(1, .class_ 2), (0, u "java/lang/Math"), (1, .class_ 6), (1, u "java/lang/Object"), (0, u "<init>"), (0, u "()V"), (5, u "(D)D"), (83, .class_ 100), (1, u "java/lang/Math$RandomNumberGeneratorHolder"), (23, u "abs"), (47, u "negativeZeroFloatBits"), (0, u "J"), (2, u "negativeZeroDoubleBits"), (68, u "$assertionsDisabled"), (0, u "Z"), (91, u "twoToTheDoubleScaleDown"), (0, u "D"), (4, u "twoToTheDoubleScaleUp"), (9, u "E"), (3, u "PI"), (2, u "TAU"), (2, u "DEGREES_TO_RADIANS"), (0, u "RADIANS_TO_DEGREES")] 94

def k9m0 : Method := { name := "<init>", desc := "()V", sig := { parameters := [], returnType := none }, accessFlags := 2, code := none }
def k9c1 : Code := { maxStack := 4, maxLocals := 2, code := jdk_29_method_64_code, exceptionTable := #[], attributes := #[] }
def k9m1 : Method := { name := "abs", desc := "(D)D", sig := { parameters := [.double], returnType := some .double }, accessFlags := 9, code := some k9c1 }
/-- java/lang/Math -/
def k9 : Class := { plain "java/lang/Math" (some 0) with
  accessFlags := 49
  interfaces := #[]
  cf := some (fileOf pool9 1 #[.nestMembers #[98]] #[{ accessFlags := 2, nameIndex := 7, descriptorIndex := 8, attributes := #[] }, { accessFlags := 9, nameIndex := 124, descriptorIndex := 14, attributes := #[] }] 49 4 #[] #[{ accessFlags := 25, nameIndex := 354, descriptorIndex := 339, attributes := #[] }, { accessFlags := 25, nameIndex := 358, descriptorIndex := 339, attributes := #[] }, { accessFlags := 25, nameIndex := 361, descriptorIndex := 339, attributes := #[] }, { accessFlags := 26, nameIndex := 364, descriptorIndex := 339, attributes := #[] }, { accessFlags := 26, nameIndex := 365, descriptorIndex := 339, attributes := #[] }, { accessFlags := 26, nameIndex := 172, descriptorIndex := 173, attributes := #[] }, { accessFlags := 26, nameIndex := 176, descriptorIndex := 173, attributes := #[] }, { accessFlags := 8, nameIndex := 344, descriptorIndex := 339, attributes := #[] }, { accessFlags := 8, nameIndex := 338, descriptorIndex := 339, attributes := #[] }, { accessFlags := 4120, nameIndex := 245, descriptorIndex := 246, attributes := #[] }])
  fields := #[{ name := "E", type := .double, accessFlags := 25, slot := 0, constantValue := 0 }, { name := "PI", type := .double, accessFlags := 25, slot := 1, constantValue := 0 }, { name := "TAU", type := .double, accessFlags := 25, slot := 2, constantValue := 0 }, { name := "DEGREES_TO_RADIANS", type := .double, accessFlags := 26, slot := 3, constantValue := 0 }, { name := "RADIANS_TO_DEGREES", type := .double, accessFlags := 26, slot := 4, constantValue := 0 }, { name := "negativeZeroFloatBits", type := .long, accessFlags := 26, slot := 5, constantValue := 0 }, { name := "negativeZeroDoubleBits", type := .long, accessFlags := 26, slot := 6, constantValue := 0 }, { name := "twoToTheDoubleScaleUp", type := .double, accessFlags := 8, slot := 7, constantValue := 0 }, { name := "twoToTheDoubleScaleDown", type := .double, accessFlags := 8, slot := 8, constantValue := 0 }, { name := "$assertionsDisabled", type := .boolean, accessFlags := 4120, slot := 9, constantValue := 0 }]
  methods := #[k9m0, k9m1]
  instanceTypes := #[]
  staticTypes := #[.double, .double, .double, .double, .double, .long, .long, .double, .double, .boolean]
  resolved := Array.replicate 460 none
  statics := none }

def pool10 : Array CpInfo := pool [(1, .class_ 2), (0, u "java/lang/Long"), (98, u "(J)I"), (133, .class_ 237), (1, u "java/lang/Long$LongCache"), (33, .class_ 272), (0, u "java/lang/Number"), (2, u "value"), (0, u "J"), (2, u "hashCode"), (81, u "TYPE"), (0, u "Ljava/lang/Class;"), (0, .class_ 364), (0, u "java/lang/Comparable"), (0, .class_ 366), (0, u "java/lang/constant/Constable"), (0, .class_ 368), (0, u "java/lang/constant/ConstantDesc"), (0, u "MIN_VALUE"), (1, u "MAX_VALUE"), (4, u "SIZE"), (0, u "I"), (1, u "BYTES"), (1, u "serialVersionUID")] 142

def k10c0 : Code := { maxStack := 5, maxLocals := 2, code := jdk_35_method_36_code, exceptionTable := #[], attributes := #[] }
def k10m0 : Method := { name := "hashCode", desc := "(J)I", sig := { parameters := [.long], returnType := some .int }, accessFlags := 9, code := some k10c0 }
/-- java/lang/Long -/
def k10 : Class := { plain "java/lang/Long" (some 4) with
  accessFlags := 49
  interfaces := #[5, 6, 7]
  cf := some (fileOf pool10 1 #[.nestMembers #[235]] #[{ accessFlags := 9, nameIndex := 279, descriptorIndex := 101, attributes := #[] }] 49 271 #[363, 365, 367] #[{ accessFlags := 25, nameIndex := 369, descriptorIndex := 276, attributes := #[] }, { accessFlags := 25, nameIndex := 371, descriptorIndex := 276, attributes := #[] }, { accessFlags := 25, nameIndex := 361, descriptorIndex := 362, attributes := #[] }, { accessFlags := 18, nameIndex := 275, descriptorIndex := 276, attributes := #[] }, { accessFlags := 25, nameIndex := 376, descriptorIndex := 377, attributes := #[] }, { accessFlags := 25, nameIndex := 379, descriptorIndex := 377, attributes := #[] }, { accessFlags := 26, nameIndex := 381, descriptorIndex := 276, attributes := #[] }])
  fields := #[{ name := "MIN_VALUE", type := .long, accessFlags := 25, slot := 0, constantValue := 0 }, { name := "MAX_VALUE", type := .long, accessFlags := 25, slot := 1, constantValue := 0 }, { name := "TYPE", type := (.object "java/lang/Class"), accessFlags := 25, slot := 2, constantValue := 0 }, { name := "value", type := .long, accessFlags := 18, slot := 0, constantValue := 0 }, { name := "SIZE", type := .int, accessFlags := 25, slot := 3, constantValue := 0 }, { name := "BYTES", type := .int, accessFlags := 25, slot := 4, constantValue := 0 }, { name := "serialVersionUID", type := .long, accessFlags := 26, slot := 5, constantValue := 0 }]
  methods := #[k10m0]
  instanceTypes := #[.long]
  staticTypes := #[.long, .long, (.object "java/lang/Class"), .int, .int, .long]
  resolved := Array.replicate 524 none
  statics := none }

def pool11 : Array CpInfo := pool [(1, u "java/lang/Cloneable"), (0, .class_ 1), (0, u "java/lang/Object"), (0, .class_ 3)] 3

/-- java/lang/Cloneable -/
def k11 : Class := { plain "java/lang/Cloneable" (some 0) with
  accessFlags := 1537
  interfaces := #[]
  cf := some (fileOf pool11 2 #[] #[] 1537 4 #[] #[])
  fields := #[]
  methods := #[]
  instanceTypes := #[]
  staticTypes := #[]
  resolved := Array.replicate 8 none
  statics := none }

/-- the primitive byte -/
def k12 : Class := { plain "byte" none with kind := .primitive 'B', accessFlags := 0x411 }
/-- [B -/
def k13 : Class := { plain "[B" (some 0) with kind := .array 12 .byte, interfaces := #[11, 3], accessFlags := 1041 }

/-- the primitive int -/
def k14 : Class := { plain "int" none with kind := .primitive 'I', accessFlags := 0x411 }
/-- [I -/
def k15 : Class := { plain "[I" (some 0) with kind := .array 14 .int, interfaces := #[11, 3], accessFlags := 1041 }

def heap : Heap := #[]
def classes : Array Class := #[k0, k1, k2, k3, k4, k5, k6, k7, k8, k9, k10, k11, k12, k13, k14, k15]
def interned : List (Array UInt16 × Addr) := []
def slotsUsed : Nat := 0
def theMethod : MethodId := ⟨1, 1⟩
def args0 : Array Value := #[.int 5, .int 6, .int 7, .int 8, .int 3]
def aboutOver (below : List Frame) : State where
  vm := { classes := classes, interned := interned.toArray }
  heap := heap
  slotsUsed := slotsUsed
  threads := #[{ frames := .invoking theMethod args0 :: below }]
def below0 : List Frame := [.native { method := ⟨0, 0⟩, args := #[] }]
def about1 : State := aboutOver below0
def p0 : Program := .bare "" "" ""
def e0 : Env := launch0.env 0 0 0
theorem w_frames : about1.frames = Frame.invoking theMethod args0 :: below0 := rfl
set_option maxRecDepth 65536 in
theorem w_args : argsFit about1.vm theMethod args0 = true := by decide +kernel
set_option maxRecDepth 65536 in
theorem w_heap : heapFits about1 = true := by decide +kernel
set_option maxRecDepth 65536 in
theorem w_runnable : about1.curStatus? = some .runnable := by decide +kernel
set_option maxRecDepth 65536 in
theorem w_alone : about1.alone = true := by decide +kernel
set_option maxRecDepth 65536 in
theorem w_named : about1.methodNamed? x = some theMethod := by decide +kernel
set_option maxRecDepth 65536 in
theorem w_hears : about1.hears theMethod below0 = true := by decide +kernel
set_option maxRecDepth 65536 in
theorem w_ripe : about1.ripe theMethod args0 below0 = true := by decide +kernel
theorem w_running : about1.status = .running := rfl
set_option maxRecDepth 65536 in
theorem w_room : about1.hasRoom e0.platform room_1 = true :=
  launch0.hasRoom_least _ room_1 (by decide +kernel) (by decide +kernel) (by decide +kernel) (by decide +kernel) (by decide +kernel) (by decide +kernel)
theorem allAtoms_all (ts : List Jvm.Cond) (a : Array Jvm.Value) (st : Jvm.State) : (allAtoms ts).before a st = ts.all (fun c => c.before a st) := by
  induction ts with
  | nil => rfl
  | cons c t ih =>
    show (Jvm.Cond.and c (allAtoms t)).before a st = _
    rw [Jvm.Cond.before_and, ih, List.all_cons]
def words1 : List Jvm.Cond := Jvm.Cond.code x code maxLocals ret :: tables_1
/-- a 'code' word, met by the world's own term for the bytes: nothing is compared byte by byte -/
theorem code_word {y : MethodName} {bytes : ByteArray} {mx : Nat} {rt : Option FieldType} {a : Array Value} {s : State} {m : MethodId} {meth : Method} {c : Code} (h1 : s.methodNamed? y = some m) (h2 : s.vm.method? m = some meth) (h3 : meth.code = some c) (h4 : c.code = bytes)
    (h5 : (c.maxLocals == mx && c.exceptionTable.isEmpty && decide (c.maxStack ≤ mostOperands) && decide (meth.sig.returnType = rt) && !meth.locks && decide (parseMethodDescriptor y.desc = some meth.sig)) = true) : (Jvm.Cond.code y bytes mx rt).before a s = true := by
  simp only [Bool.and_eq_true, beq_iff_eq, Bool.not_eq_true', decide_eq_true_eq] at h5
  obtain ⟨⟨⟨⟨⟨g1, g2⟩, g3⟩, g4⟩, g5⟩, g6⟩ := h5
  simp [Cond.before, Cond.holds, Cond.value, h1, h2, h3, h4, g1, g2, g3, g4, g5, g6]
def isCode : Jvm.Cond → Bool
  | .code _ _ _ _ => true
  | _ => false
theorem all_split {L : List Jvm.Cond} {P : Jvm.Cond → Bool} (h1 : L.all (fun c => isCode c || P c) = true) (h2 : ∀ c ∈ L.filter isCode, P c = true) : L.all P = true := by
  refine List.all_eq_true.mpr fun c hc => ?_
  have h := List.all_eq_true.mp h1 c hc
  rcases Bool.eq_false_or_eq_true (isCode c) with hi | hi
  · exact h2 c (List.mem_filter.mpr ⟨hc, hi⟩)
  · simpa [hi] using h
set_option maxRecDepth 65536 in
theorem w_c0 : (Jvm.Cond.code x code maxLocals ret).before args0 about1 = true := code_word (m := ⟨1, 1⟩) (meth := k1m1) (c := k1c1) (by decide +kernel) rfl rfl rfl (by decide +kernel)
set_option maxRecDepth 65536 in
theorem w_c1 : (Jvm.Cond.code ({ cls := "com/example/minisum/minisum/Point", name := "<init>", desc := "(DD)V" } : Jvm.MethodName) prog_17_method_1_code (5 : Nat) (Option.none : Option Jvm.ClassFile.FieldType)).before args0 about1 = true := code_word (m := ⟨2, 0⟩) (meth := k2m0) (c := k2c0) (by decide +kernel) rfl rfl rfl (by decide +kernel)
set_option maxRecDepth 65536 in
theorem w_c2 : (Jvm.Cond.code ({ cls := "java/lang/Object", name := "<init>", desc := "()V" } : Jvm.MethodName) object_method_1_code (1 : Nat) (Option.none : Option Jvm.ClassFile.FieldType)).before args0 about1 = true := code_word (m := ⟨0, 0⟩) (meth := k0m0) (c := k0c0) (by decide +kernel) rfl rfl rfl (by decide +kernel)
set_option maxRecDepth 65536 in
theorem w_c3 : (Jvm.Cond.code ({ cls := "java/lang/Double", name := "isFinite", desc := "(D)Z" } : Jvm.MethodName) jdk_117_method_8_code (2 : Nat) (Option.some Jvm.ClassFile.FieldType.boolean)).before args0 about1 = true := code_word (m := ⟨8, 1⟩) (meth := k8m1) (c := k8c1) (by decide +kernel) rfl rfl rfl (by decide +kernel)
set_option maxRecDepth 65536 in
theorem w_c4 : (Jvm.Cond.code ({ cls := "java/lang/Math", name := "abs", desc := "(D)D" } : Jvm.MethodName) jdk_29_method_64_code (2 : Nat) (Option.some Jvm.ClassFile.FieldType.double)).before args0 about1 = true := code_word (m := ⟨9, 1⟩) (meth := k9m1) (c := k9c1) (by decide +kernel) rfl rfl rfl (by decide +kernel)
set_option maxRecDepth 65536 in
theorem w_c5 : (Jvm.Cond.code ({ cls := "com/example/minisum/minisum/Point", name := "hashCode", desc := "()I" } : Jvm.MethodName) prog_17_method_6_code (1 : Nat) (Option.some Jvm.ClassFile.FieldType.int)).before args0 about1 = true := code_word (m := ⟨2, 2⟩) (meth := k2m2) (c := k2c2) (by decide +kernel) rfl rfl rfl (by decide +kernel)
set_option maxRecDepth 65536 in
theorem w_c6 : (Jvm.Cond.code ({ cls := "java/lang/Double", name := "hashCode", desc := "(D)I" } : Jvm.MethodName) jdk_117_method_21_code (2 : Nat) (Option.some Jvm.ClassFile.FieldType.int)).before args0 about1 = true := code_word (m := ⟨8, 2⟩) (meth := k8m2) (c := k8c2) (by decide +kernel) rfl rfl rfl (by decide +kernel)
set_option maxRecDepth 65536 in
theorem w_c7 : (Jvm.Cond.code ({ cls := "java/lang/Double", name := "doubleToLongBits", desc := "(D)J" } : Jvm.MethodName) jdk_117_method_23_code (2 : Nat) (Option.some Jvm.ClassFile.FieldType.long)).before args0 about1 = true := code_word (m := ⟨8, 3⟩) (meth := k8m3) (c := k8c3) (by decide +kernel) rfl rfl rfl (by decide +kernel)
set_option maxRecDepth 65536 in
theorem w_c8 : (Jvm.Cond.code ({ cls := "java/lang/Double", name := "isNaN", desc := "(D)Z" } : Jvm.MethodName) jdk_117_method_6_code (2 : Nat) (Option.some Jvm.ClassFile.FieldType.boolean)).before args0 about1 = true := code_word (m := ⟨8, 0⟩) (meth := k8m0) (c := k8c0) (by decide +kernel) rfl rfl rfl (by decide +kernel)
set_option maxRecDepth 65536 in
theorem w_c9 : (Jvm.Cond.code ({ cls := "java/lang/Long", name := "hashCode", desc := "(J)I" } : Jvm.MethodName) jdk_35_method_36_code (2 : Nat) (Option.some Jvm.ClassFile.FieldType.int)).before args0 about1 = true := code_word (m := ⟨10, 0⟩) (meth := k10m0) (c := k10c0) (by decide +kernel) rfl rfl rfl (by decide +kernel)
set_option maxRecDepth 65536 in
theorem w_c10 : (Jvm.Cond.code ({ cls := "com/example/minisum/minisum/Point", name := "equals", desc := "(Ljava/lang/Object;)Z" } : Jvm.MethodName) prog_17_method_5_code (2 : Nat) (Option.some Jvm.ClassFile.FieldType.boolean)).before args0 about1 = true := code_word (m := ⟨2, 1⟩) (meth := k2m1) (c := k2c1) (by decide +kernel) rfl rfl rfl (by decide +kernel)
set_option maxRecDepth 65536 in
theorem w_c11 : (Jvm.Cond.code ({ cls := "java/lang/Double", name := "compare", desc := "(DD)I" } : Jvm.MethodName) jdk_117_method_27_code (8 : Nat) (Option.some Jvm.ClassFile.FieldType.int)).before args0 about1 = true := code_word (m := ⟨8, 5⟩) (meth := k8m5) (c := k8c5) (by decide +kernel) rfl rfl rfl (by decide +kernel)
def codes1 : List Jvm.Cond := [Jvm.Cond.code x code maxLocals ret, Jvm.Cond.code ({ cls := "com/example/minisum/minisum/Point", name := "<init>", desc := "(DD)V" } : Jvm.MethodName) prog_17_method_1_code (5 : Nat) (Option.none : Option Jvm.ClassFile.FieldType), Jvm.Cond.code ({ cls := "java/lang/Object", name := "<init>", desc := "()V" } : Jvm.MethodName) object_method_1_code (1 : Nat) (Option.none : Option Jvm.ClassFile.FieldType), Jvm.Cond.code ({ cls := "java/lang/Double", name := "isFinite", desc := "(D)Z" } : Jvm.MethodName) jdk_117_method_8_code (2 : Nat) (Option.some Jvm.ClassFile.FieldType.boolean), Jvm.Cond.code ({ cls := "java/lang/Math", name := "abs", desc := "(D)D" } : Jvm.MethodName) jdk_29_method_64_code (2 : Nat) (Option.some Jvm.ClassFile.FieldType.double), Jvm.Cond.code ({ cls := "com/example/minisum/minisum/Point", name := "hashCode", desc := "()I" } : Jvm.MethodName) prog_17_method_6_code (1 : Nat) (Option.some Jvm.ClassFile.FieldType.int), Jvm.Cond.code ({ cls := "java/lang/Double", name := "hashCode", desc := "(D)I" } : Jvm.MethodName) jdk_117_method_21_code (2 : Nat) (Option.some Jvm.ClassFile.FieldType.int), Jvm.Cond.code ({ cls := "java/lang/Double", name := "doubleToLongBits", desc := "(D)J" } : Jvm.MethodName) jdk_117_method_23_code (2 : Nat) (Option.some Jvm.ClassFile.FieldType.long), Jvm.Cond.code ({ cls := "java/lang/Double", name := "isNaN", desc := "(D)Z" } : Jvm.MethodName) jdk_117_method_6_code (2 : Nat) (Option.some Jvm.ClassFile.FieldType.boolean), Jvm.Cond.code ({ cls := "java/lang/Long", name := "hashCode", desc := "(J)I" } : Jvm.MethodName) jdk_35_method_36_code (2 : Nat) (Option.some Jvm.ClassFile.FieldType.int), Jvm.Cond.code ({ cls := "com/example/minisum/minisum/Point", name := "equals", desc := "(Ljava/lang/Object;)Z" } : Jvm.MethodName) prog_17_method_5_code (2 : Nat) (Option.some Jvm.ClassFile.FieldType.boolean), Jvm.Cond.code ({ cls := "java/lang/Double", name := "compare", desc := "(DD)I" } : Jvm.MethodName) jdk_117_method_27_code (8 : Nat) (Option.some Jvm.ClassFile.FieldType.int)]
set_option maxRecDepth 65536 in
theorem codes_eq : words1.filter isCode = codes1 := rfl
theorem w_codes : ∀ c ∈ words1.filter isCode, c.before args0 about1 = true := by
  rw [codes_eq]
  intro c hc
  simp only [codes1, List.mem_cons, List.not_mem_nil, or_false] at hc
  rcases hc with rfl | rfl | rfl | rfl | rfl | rfl | rfl | rfl | rfl | rfl | rfl | rfl
  · exact w_c0
  · exact w_c1
  · exact w_c2
  · exact w_c3
  · exact w_c4
  · exact w_c5
  · exact w_c6
  · exact w_c7
  · exact w_c8
  · exact w_c9
  · exact w_c10
  · exact w_c11
set_option maxRecDepth 65536 in
theorem w_t1 : (words1.take 24).all (fun c => isCode c || c.before args0 about1) = true := by decide +kernel
set_option maxRecDepth 65536 in
theorem w_t2 : ((words1.drop 24).take 24).all (fun c => isCode c || c.before args0 about1) = true := by decide +kernel
set_option maxRecDepth 65536 in
theorem w_t3 : ((words1.drop 24).drop 24).all (fun c => isCode c || c.before args0 about1) = true := by decide +kernel
theorem w_tables : (allAtoms (Jvm.Cond.code x code maxLocals ret :: tables_1)).before args0 about1 = true := by
  rw [allAtoms_all]
  show words1.all (fun c => c.before args0 about1) = true
  refine all_split ?_ w_codes
  rw [← List.take_append_drop 24 words1, List.all_append, w_t1, ← List.take_append_drop 24 (words1.drop 24), List.all_append, w_t2, w_t3]
  rfl
set_option maxRecDepth 65536 in
theorem w_case : (Jvm.Cond.and given_1 narrow_1).before args0 about1 = true := by decide +kernel
theorem w_applies : (headSpec (Jvm.Cond.code x code maxLocals ret :: tables_1) room_1).applies x e0.platform about1 = true :=
  (Spec.applies_iff w_frames).mpr ⟨w_running, w_runnable, w_alone, w_named, w_hears, w_ripe, w_room, w_tables⟩
theorem atStart : AtStart classFile x code maxLocals ret World_1 tables_1 room_1 Calls_1 rest_1 Pre_1 launch0 p0 e0 about1 theMethod args0 below0 :=
  ⟨lists_1, trivial, launch0.admits_env _ _ _, launch0.least_env, fairChoices_fair.cas, fairChoices_fair.clock, w_frames, w_args, w_heap, w_applies, trivial, trivial, w_case⟩
end start1
theorem witness_1 : WitnessClaimed_1 := ⟨start1.p0, start1.e0, start1.about1, start1.theMethod, start1.args0, start1.below0, start1.atStart⟩
end Jvm.Pilot.@@N@@
