import JvmDerived
import JvmDerived.Pilot.@@N@@Statement
import JvmDerived.Pilot.@@N@@Code
set_option linter.unusedVariables false
set_option linter.unusedSimpArgs false
namespace Jvm.Pilot.@@N@@
open Jvm Jvm.ClassFile Sem Op Lib Jvm.Free Jvm.Stand Jvm.LawKit Jvm.RoadKit Bundle Jvm.Free.Fl Jvm.Pilot.@@N@@.Jvm.D
theorem own_w {a0 : Array Value} {Z : State} (hw : ∀ d ∈ tables_1, d.before a0 Z = true) (i : Nat) {d : Jvm.Cond} (h : tables_1[i]? = some d) : d.before a0 Z = true := hw _ (List.mem_of_getElem? h)
abbrev own_S (p : Program) (e : Env) (below : List Frame) (T : State) (m : MethodId) (pc : Nat) (Ls : Array Slot) (st : List Value) (t : State) : Prop := Steps p.tables e below (T.setTop (mkF m pc Ls st)) t
section Re
variable {tb : Tables} {e : Env} {below : List Frame} {T target : State} {m : MethodId} {pc : Nat} {Ls : Array Slot} {rest : List Value}
theorem reI {x y : Int32} (h : x = y) (k : Steps tb e below (T.setTop (mkF m pc Ls (.int y :: rest))) target) : Steps tb e below (T.setTop (mkF m pc Ls (.int x :: rest))) target := by rw [h]; exact k
theorem reJ {x y : Int64} (h : x = y) (k : Steps tb e below (T.setTop (mkF m pc Ls (.long y :: rest))) target) : Steps tb e below (T.setTop (mkF m pc Ls (.long x :: rest))) target := by rw [h]; exact k
theorem reD {x y : UInt64} (h : x = y) (k : Steps tb e below (T.setTop (mkF m pc Ls (.double y :: rest))) target) : Steps tb e below (T.setTop (mkF m pc Ls (.double x :: rest))) target := by rw [h]; exact k
theorem re2I {v : Value} {x y : Int32} (h : x = y) (k : Steps tb e below (T.setTop (mkF m pc Ls (v :: .int y :: rest))) target) : Steps tb e below (T.setTop (mkF m pc Ls (v :: .int x :: rest))) target := by rw [h]; exact k
theorem own_nnl {e v : UInt64} (h : e = v) (hv : NoNaN64 v) : NoNaN64 e := h ▸ hv
end Re
section OwnInt
theorem own_lmul {x y : Int64} {A B : Nat} (hx : x.toInt.natAbs ≤ A) (hy : y.toInt.natAbs ≤ B) (h : A * B < 2 ^ 62) : (x * y).toInt = x.toInt * y.toInt := by
  have hb : (x.toInt * y.toInt).natAbs ≤ A * B := by rw [Int.natAbs_mul]; exact Nat.mul_le_mul hx hy
  rw [Int64.toInt_mul]; exact Int.bmod_eq_of_le (by omega) (by omega)
theorem own_ladd {x y : Int64} {A B : Nat} (hx : x.toInt.natAbs ≤ A) (hy : y.toInt.natAbs ≤ B) (h : A + B < 2 ^ 62) : (x + y).toInt = x.toInt + y.toInt := by
  rw [Int64.toInt_add]; exact Int.bmod_eq_of_le (by omega) (by omega)
theorem own_lsub {x y : Int64} {A B : Nat} (hx : x.toInt.natAbs ≤ A) (hy : y.toInt.natAbs ≤ B) (h : A + B < 2 ^ 62) : (x - y).toInt = x.toInt - y.toInt := by
  rw [Int64.toInt_sub]; exact Int.bmod_eq_of_le (by omega) (by omega)
theorem own_maskL {x m : Int64} {k : Nat} (hk : k ≤ 63) (hm : m.toBitVec.toNat = 2 ^ k - 1) : 0 ≤ (x &&& m).toInt ∧ (x &&& m).toInt < ((2 ^ k : Nat) : Int) := by
  rw [c_maskL x m k hk hm]
  have p : (0 : Int) < ((2 ^ k : Nat) : Int) := by have := Nat.two_pow_pos k; omega
  exact ⟨Int.emod_nonneg _ (by omega), Int.emod_lt_of_pos _ p⟩
theorem own_maskI {x m : Int32} {k : Nat} (hk : k ≤ 31) (hm : m.toBitVec.toNat = 2 ^ k - 1) : 0 ≤ (x &&& m).toInt ∧ (x &&& m).toInt < ((2 ^ k : Nat) : Int) := by
  rw [c_mask x m k hk hm]
  have p : (0 : Int) < ((2 ^ k : Nat) : Int) := by have := Nat.two_pow_pos k; omega
  exact ⟨Int.emod_nonneg _ (by omega), Int.emod_lt_of_pos _ p⟩
theorem own_cases32 {x : Int32} {n : Nat} (h0 : 0 ≤ x.toInt) (h1 : x.toInt < (n : Int)) : ∃ k : Nat, k < n ∧ x = Int32.ofNat k := by
  refine ⟨x.toInt.toNat, by omega, ?_⟩
  apply Int32.toInt_inj.mp
  have hx := x.toInt_lt
  rw [Int32.toInt_ofNat_of_lt (by omega)]
  omega
theorem own_irem {x z m : Int32} (h : z = x % m) {M : Int} (hm : m.toInt = M) (hM : 0 < M) : -M < z.toInt ∧ z.toInt < M ∧ (0 ≤ x.toInt → 0 ≤ z.toInt) := by
  have q := c_irem x m M hm
  rcases (by omega : x.toInt < 0 ∨ 0 ≤ x.toInt) with a | a
  · have := q.2 a; rw [← h] at this
    have b1 := Int.emod_nonneg (-x.toInt) (show M ≠ 0 by omega); have b2 := Int.emod_lt_of_pos (-x.toInt) hM
    omega
  · have := q.1 a; rw [← h] at this
    have b1 := Int.emod_nonneg x.toInt (show M ≠ 0 by omega); have b2 := Int.emod_lt_of_pos x.toInt hM
    omega
theorem own_ple {j k : Nat} (h : j ≤ k) : (2 : Int) ^ j ≤ 2 ^ k := by
  have h1 : ((2 ^ j : Nat) : Int) = (2 : Int) ^ j := Int.natCast_pow 2 j
  have h2 : ((2 ^ k : Nat) : Int) = (2 : Int) ^ k := Int.natCast_pow 2 k
  have h3 : 2 ^ j ≤ 2 ^ k := Nat.pow_le_pow_right (by decide) h
  rw [← h1, ← h2]; omega
end OwnInt
def own_value (p0 : Int32) (q1 : Int64) : UInt64 := if p0 = 0 then FP.l2d (q1 &&& 9223372036854775807) else if p0 = 1 then 0 else if p0 = 2 then 9218868437227405311 else 9218868437227405312
def own_rch (x : UInt64) : Int32 := if (cmpValue (FP.dcmp x (9218868437227405312 : UInt64)) .g) < (0 : Int32) then 1 else 0
theorem own_rfin {x : UInt64} (h : Fin64 x) : own_rch x = 1 := by unfold own_rch; rw [dcmp_pinf h]; decide
theorem own_r1 {x k : Int32} (v : Int64) (hk : k = x &&& 3) (h : ¬ k = 3) : own_rch (own_value k v) = 1 := by
  have b := own_maskI (x := x) (m := 3) (k := 2) (by decide) (by decide)
  rw [← hk] at b
  obtain ⟨j, hj, e⟩ := own_cases32 (n := 4) b.1 b.2
  have hj' : j = 0 ∨ j = 1 ∨ j = 2 ∨ j = 3 := by omega
  apply own_rfin
  rcases hj' with rfl | rfl | rfl | rfl
  · rw [show k = 0 from e]; exact l2d_fin _
  · rw [show k = 1 from e]; show Fin64 0; unfold Fin64; decide
  · rw [show k = 2 from e]; show Fin64 9218868437227405311; unfold Fin64; decide
  · exact absurd e h
theorem own_r0 {k : Int32} (v : Int64) (h : k = 3) : own_rch (own_value k v) = 0 := by
  subst h
  show own_rch 9218868437227405312 = 0
  decide +kernel
theorem d1_0 : decode method_2_code 0 = .ok (.iload_n 0, 1) := by decide +kernel
theorem d1_1 : decode method_2_code 1 = .ok (.ifCond .ne 10, 3) := by decide +kernel
theorem d1_4 : decode method_2_code 4 = .ok (.lload_n 1, 1) := by decide +kernel
theorem d1_5 : decode method_2_code 5 = .ok (.ldc2_w 9, 3) := by decide +kernel
theorem d1_8 : decode method_2_code 8 = .ok (.land, 1) := by decide +kernel
theorem d1_9 : decode method_2_code 9 = .ok (.l2d, 1) := by decide +kernel
theorem d1_10 : decode method_2_code 10 = .ok (.dreturn, 1) := by decide +kernel
theorem d1_11 : decode method_2_code 11 = .ok (.iload_n 0, 1) := by decide +kernel
theorem d1_12 : decode method_2_code 12 = .ok (.iconst 1, 1) := by decide +kernel
theorem d1_13 : decode method_2_code 13 = .ok (.if_icmp .ne 5, 3) := by decide +kernel
theorem d1_16 : decode method_2_code 16 = .ok (.dconst 0, 1) := by decide +kernel
theorem d1_17 : decode method_2_code 17 = .ok (.dreturn, 1) := by decide +kernel
theorem d1_18 : decode method_2_code 18 = .ok (.iload_n 0, 1) := by decide +kernel
theorem d1_19 : decode method_2_code 19 = .ok (.iconst 2, 1) := by decide +kernel
theorem d1_20 : decode method_2_code 20 = .ok (.if_icmp .ne 7, 3) := by decide +kernel
theorem d1_23 : decode method_2_code 23 = .ok (.ldc2_w 13, 3) := by decide +kernel
theorem d1_26 : decode method_2_code 26 = .ok (.dreturn, 1) := by decide +kernel
theorem d1_27 : decode method_2_code 27 = .ok (.ldc2_w 15, 3) := by decide +kernel
theorem d1_30 : decode method_2_code 30 = .ok (.dreturn, 1) := by decide +kernel
theorem pn0 : plainName "com/example/fireweed/fireweed/service/ShortestPathsReachesPinLaw" = true := by first | (simp [plainName, overriddenIn]; done) | decide +kernel
theorem efm1 (m : MethodId) (p0 : Int32) (q1 : Int64) : entryFrame m #[(.int p0), (.long q1)] 3 = mkF m 0 #[.val (.int p0), .val (.long q1), .second] [] := by first | (simp [entryFrame, mkF, argsToLocals, Value.category]; done) | rfl
def Qm1 (Z : State) (p0 : Int32) (q1 : Int64) (h0 : Heap) (n0 : Nat) (v : Option Value) (h : Heap) (L : List Loc) : Prop := v = some (.double (own_value p0 q1)) ∧ Fr n0 L ∧ (h = h0)
set_option maxRecDepth 65536 in
set_option maxHeartbeats 40000000 in
theorem rmm1 (l : Launch) (Z : State) (a0 : Array Value) (hw : ∀ d ∈ tables_1, d.before a0 Z = true) (ws : List Jvm.Cond) (p0 : Int32) (q1 : Int64) (h0 : Heap) (n0 : Nat) (Z0 : n0 ≤ h0.size)  :
    MetFree l (⟨"com/example/fireweed/fireweed/service/ShortestPathsReachesPinLaw", "value", "(IJ)D"⟩ : MethodName) (head1 (Jvm.Cond.code (⟨"com/example/fireweed/fireweed/service/ShortestPathsReachesPinLaw", "value", "(IJ)D"⟩ : MethodName) method_2_code 3 (some .double) :: ws) ({ frames := 0, cells := 0, slots := 0, locals := 0 } : Room)) (fun a U => a = #[(.int p0), (.long q1)] ∧ Z.Warmed39 U.vm ∧ U.heap = h0) (fun _ _ _ _ _ => True) (fun _ U o U' => ∃ v L, o = .returned v ∧ Qm1 Z p0 q1 h0 n0 v U'.heap L ∧ FrameEnd U o U' L ({ frames := 0, cells := 0, slots := 0, locals := 0 } : Room).cells ({ frames := 0, cells := 0, slots := 0, locals := 0 } : Room).slots) := by
  refine MetFree.of_bodySF (plainFor_of_name pn0) hisR ?_
  intro p e s m args below meth c s₁ Bd hml0 hP hK
  obtain ⟨rfl, hZ, hh⟩ := hP
  have hx := Bd.exec
  have hby := Bd.bytes
  have hml : c.maxLocals = 3 := hml0
  have hown : s.vm.findClass "com/example/fireweed/fireweed/service/ShortestPathsReachesPinLaw" = some m.cls := findClass_of_methodNamed Bd.named
  have hnm := (name_of_methodNamed Bd.named Bd.method).1
  have X0 : Stand p l e ({ frames := 0, cells := 0, slots := 0, locals := 0 } : Room) s m #[(.int p0), (.long q1)] below meth c s₁ [] 0 0 := Stand.of_body Bd
  have e0 : s₁.heap = h0 := by rw [← hh, Bd.state]; rfl
  have N0 := Fr.nil n0
  have pre0 : ∀ t, Steps p.tables e below (s₁.setTop (mkF m 0 #[.val (.int p0), .val (.long q1), .second] [])) t → Steps p.tables e below (s₁.setTop (entryFrame m #[(.int p0), (.long q1)] 3)) t := fun t k => castTop (efm1 m p0 q1) k
  have pre101 : ∀ t, Steps p.tables e below (s₁.setTop (mkF m 1 #[.val (.int p0), .val (.long q1), .second] [(.int p0)])) t → Steps p.tables e below (s₁.setTop (mkF m 0 #[.val (.int p0), .val (.long q1), .second] [])) t := by
    intro t kt
    show own_S p e below s₁ m 0 #[.val (.int p0), .val (.long q1), .second] [] _
    refine XS.iloadN X0.here hx rfl (hb hby d1_0) rfl ?_
    exact kt
  by_cases ha : p0 = (0 : Int32)
  · skip
    obtain ⟨fs, hr, hrun, hended, hW, hsame⟩ := X0.leave (v := some (.double (FP.l2d (q1 &&& (9223372036854775807 : Int64))))) (fun h => by rw [Bd.returns] at h; cases h)
    refine ⟨_, _, pre0 _ (pre101 _ ?_), hrun, hended, _, _, rfl, ?_, ⟨_, rfl⟩, hW, hsame.mono (by decide) (by decide)⟩
    · show own_S p e below s₁ m 1 #[.val (.int p0), .val (.long q1), .second] [(.int p0)] _
      refine XS.ifNo X0.here hx rfl (hb hby d1_1) rfl ((if0 _ _).trans (teq (ha : p0 = (0 : Int32))).2) ?_
      show own_S p e below s₁ m 4 #[.val (.int p0), .val (.long q1), .second] [] _
      refine XS.lloadN X0.here hx rfl (hb hby d1_4) rfl ?_
      show own_S p e below s₁ m 5 #[.val (.int p0), .val (.long q1), .second] [(.long q1)] _
      refine X0.ldc2Long hx hown (mvT hZ (own_w hw 5 rfl)) (g := (mkF m 5 #[.val (.int p0), .val (.long q1), .second] [(.long q1)])) rfl (hb hby d1_5) _ ?_
      show own_S p e below s₁ m 8 #[.val (.int p0), .val (.long q1), .second] [(.long (9223372036854775807 : Int64)), (.long q1)] _
      refine XS.land X0.here hx rfl (hb hby d1_8) rfl ?_
      show own_S p e below s₁ m 9 #[.val (.int p0), .val (.long q1), .second] [(.long (q1 &&& (9223372036854775807 : Int64)))] _
      refine XS.l2dS X0.here hx rfl (v := (FP.l2d (q1 &&& (9223372036854775807 : Int64)))) (hb hby d1_9) rfl rfl ?_
      show own_S p e below s₁ m 10 #[.val (.int p0), .val (.long q1), .second] [(.double (FP.l2d (q1 &&& (9223372036854775807 : Int64))))] _
      exact retOut X0 hx Bd.returns rfl (Or.inr (Or.inr (Or.inl ⟨rfl, rfl, _, rfl⟩))) (hb hby d1_10) hr
    · show Qm1 Z p0 q1 h0 n0 _ s₁.heap _
      rw [e0]
      exact ⟨(by simp [own_value, *]), N0, rfl⟩
  · skip
    have pre102 : ∀ t, Steps p.tables e below (s₁.setTop (mkF m 13 #[.val (.int p0), .val (.long q1), .second] [(.int 1), (.int p0)])) t → Steps p.tables e below (s₁.setTop (mkF m 0 #[.val (.int p0), .val (.long q1), .second] [])) t := by
      intro t kt
      refine pre101 _ ?_
      show own_S p e below s₁ m 1 #[.val (.int p0), .val (.long q1), .second] [(.int p0)] _
      refine XS.ifYes X0.here hx rfl (pc0 := 1) (pc' := 11) rfl (hb hby d1_1) rfl ((if0 _ _).trans (feq (ha : ¬ (p0 = (0 : Int32)))).2) (by decide) (by decide) ?_
      show own_S p e below s₁ m 11 #[.val (.int p0), .val (.long q1), .second] [] _
      refine XS.iloadN X0.here hx rfl (hb hby d1_11) rfl ?_
      show own_S p e below s₁ m 12 #[.val (.int p0), .val (.long q1), .second] [(.int p0)] _
      refine XS.iconst X0.here hx rfl (hb hby d1_12) ?_
      exact kt
    by_cases hb_ : p0 = (1 : Int32)
    · skip
      obtain ⟨fs, hr, hrun, hended, hW, hsame⟩ := X0.leave (v := some (.double 0)) (fun h => by rw [Bd.returns] at h; cases h)
      refine ⟨_, _, pre0 _ (pre102 _ ?_), hrun, hended, _, _, rfl, ?_, ⟨_, rfl⟩, hW, hsame.mono (by decide) (by decide)⟩
      · show own_S p e below s₁ m 13 #[.val (.int p0), .val (.long q1), .second] [(.int 1), (.int p0)] _
        refine XS.icmpNo X0.here hx rfl (hb hby d1_13) rfl (teq (hb_ : p0 = (1 : Int32))).2 ?_
        show own_S p e below s₁ m 16 #[.val (.int p0), .val (.long q1), .second] [] _
        refine XS.dconst0 X0.here hx rfl (v := 0) (hb hby d1_16) rfl ?_
        show own_S p e below s₁ m 17 #[.val (.int p0), .val (.long q1), .second] [(.double 0)] _
        exact retOut X0 hx Bd.returns rfl (Or.inr (Or.inr (Or.inl ⟨rfl, rfl, _, rfl⟩))) (hb hby d1_17) hr
      · show Qm1 Z p0 q1 h0 n0 _ s₁.heap _
        rw [e0]
        exact ⟨(by simp [own_value, *]), N0, rfl⟩
    · skip
      have pre103 : ∀ t, Steps p.tables e below (s₁.setTop (mkF m 20 #[.val (.int p0), .val (.long q1), .second] [(.int 2), (.int p0)])) t → Steps p.tables e below (s₁.setTop (mkF m 0 #[.val (.int p0), .val (.long q1), .second] [])) t := by
        intro t kt
        refine pre102 _ ?_
        show own_S p e below s₁ m 13 #[.val (.int p0), .val (.long q1), .second] [(.int 1), (.int p0)] _
        refine XS.icmpYes X0.here hx rfl (pc0 := 13) (pc' := 18) rfl (hb hby d1_13) rfl (feq (hb_ : ¬ (p0 = (1 : Int32)))).2 (by decide) (by decide) ?_
        show own_S p e below s₁ m 18 #[.val (.int p0), .val (.long q1), .second] [] _
        refine XS.iloadN X0.here hx rfl (hb hby d1_18) rfl ?_
        show own_S p e below s₁ m 19 #[.val (.int p0), .val (.long q1), .second] [(.int p0)] _
        refine XS.iconst X0.here hx rfl (hb hby d1_19) ?_
        exact kt
      by_cases hc : p0 = (2 : Int32)
      · skip
        obtain ⟨fs, hr, hrun, hended, hW, hsame⟩ := X0.leave (v := some (.double 9218868437227405311)) (fun h => by rw [Bd.returns] at h; cases h)
        refine ⟨_, _, pre0 _ (pre103 _ ?_), hrun, hended, _, _, rfl, ?_, ⟨_, rfl⟩, hW, hsame.mono (by decide) (by decide)⟩
        · show own_S p e below s₁ m 20 #[.val (.int p0), .val (.long q1), .second] [(.int 2), (.int p0)] _
          refine XS.icmpNo X0.here hx rfl (hb hby d1_20) rfl (teq (hc : p0 = (2 : Int32))).2 ?_
          show own_S p e below s₁ m 23 #[.val (.int p0), .val (.long q1), .second] [] _
          refine X0.ldc2DoubleC hx hown (mvT hZ (own_w hw 31 rfl)) (g := (mkF m 23 #[.val (.int p0), .val (.long q1), .second] [])) rfl (hb hby d1_23) _ ?_
          show own_S p e below s₁ m 26 #[.val (.int p0), .val (.long q1), .second] [(.double 9218868437227405311)] _
          exact retOut X0 hx Bd.returns rfl (Or.inr (Or.inr (Or.inl ⟨rfl, rfl, _, rfl⟩))) (hb hby d1_26) hr
        · show Qm1 Z p0 q1 h0 n0 _ s₁.heap _
          rw [e0]
          exact ⟨(by simp [own_value, *]), N0, rfl⟩
      · skip
        obtain ⟨fs, hr, hrun, hended, hW, hsame⟩ := X0.leave (v := some (.double 9218868437227405312)) (fun h => by rw [Bd.returns] at h; cases h)
        refine ⟨_, _, pre0 _ (pre103 _ ?_), hrun, hended, _, _, rfl, ?_, ⟨_, rfl⟩, hW, hsame.mono (by decide) (by decide)⟩
        · show own_S p e below s₁ m 20 #[.val (.int p0), .val (.long q1), .second] [(.int 2), (.int p0)] _
          refine XS.icmpYes X0.here hx rfl (pc0 := 20) (pc' := 27) rfl (hb hby d1_20) rfl (feq (hc : ¬ (p0 = (2 : Int32)))).2 (by decide) (by decide) ?_
          show own_S p e below s₁ m 27 #[.val (.int p0), .val (.long q1), .second] [] _
          refine X0.ldc2DoubleC hx hown (mvT hZ (own_w hw 30 rfl)) (g := (mkF m 27 #[.val (.int p0), .val (.long q1), .second] [])) rfl (hb hby d1_27) _ ?_
          show own_S p e below s₁ m 30 #[.val (.int p0), .val (.long q1), .second] [(.double 9218868437227405312)] _
          exact retOut X0 hx Bd.returns rfl (Or.inr (Or.inr (Or.inl ⟨rfl, rfl, _, rfl⟩))) (hb hby d1_30) hr
        · show Qm1 Z p0 q1 h0 n0 _ s₁.heap _
          rw [e0]
          exact ⟨(by simp [own_value, *]), N0, rfl⟩
theorem sn0 {Z : State} {a0 : Array Value} (hw : ∀ d ∈ tables_1, d.before a0 Z = true) : Jvm.RoadKit.slotOf Z "com/example/fireweed/fireweed/service/ShortestPaths" "origin" "I" ≠ Jvm.RoadKit.slotOf Z "com/example/fireweed/fireweed/service/ShortestPaths" "router" "Lcom/example/fireweed/fireweed/service/Router;" := slot_ne (Or.inr (own_w hw 19 rfl)) (Or.inr (own_w hw 17 rfl)) (by decide) (t := .int) (t' := (.object "com/example/fireweed/fireweed/service/Router")) (by decide) (by decide)
theorem sn1 {Z : State} {a0 : Array Value} (hw : ∀ d ∈ tables_1, d.before a0 Z = true) : Jvm.RoadKit.slotOf Z "com/example/fireweed/fireweed/service/ShortestPaths" "lengthM" "[D" ≠ Jvm.RoadKit.slotOf Z "com/example/fireweed/fireweed/service/ShortestPaths" "router" "Lcom/example/fireweed/fireweed/service/Router;" := slot_ne (Or.inr (own_w hw 21 rfl)) (Or.inr (own_w hw 17 rfl)) (by decide) (t := (.array .double)) (t' := (.object "com/example/fireweed/fireweed/service/Router")) (by decide) (by decide)
theorem sn2 {Z : State} {a0 : Array Value} (hw : ∀ d ∈ tables_1, d.before a0 Z = true) : Jvm.RoadKit.slotOf Z "com/example/fireweed/fireweed/service/ShortestPaths" "lengthM" "[D" ≠ Jvm.RoadKit.slotOf Z "com/example/fireweed/fireweed/service/ShortestPaths" "origin" "I" := slot_ne (Or.inr (own_w hw 21 rfl)) (Or.inr (own_w hw 19 rfl)) (by decide) (t := (.array .double)) (t' := .int) (by decide) (by decide)
theorem sn3 {Z : State} {a0 : Array Value} (hw : ∀ d ∈ tables_1, d.before a0 Z = true) : Jvm.RoadKit.slotOf Z "com/example/fireweed/fireweed/service/ShortestPaths" "previous" "[I" ≠ Jvm.RoadKit.slotOf Z "com/example/fireweed/fireweed/service/ShortestPaths" "router" "Lcom/example/fireweed/fireweed/service/Router;" := slot_ne (Or.inr (own_w hw 23 rfl)) (Or.inr (own_w hw 17 rfl)) (by decide) (t := (.array .int)) (t' := (.object "com/example/fireweed/fireweed/service/Router")) (by decide) (by decide)
theorem sn4 {Z : State} {a0 : Array Value} (hw : ∀ d ∈ tables_1, d.before a0 Z = true) : Jvm.RoadKit.slotOf Z "com/example/fireweed/fireweed/service/ShortestPaths" "previous" "[I" ≠ Jvm.RoadKit.slotOf Z "com/example/fireweed/fireweed/service/ShortestPaths" "origin" "I" := slot_ne (Or.inr (own_w hw 23 rfl)) (Or.inr (own_w hw 19 rfl)) (by decide) (t := (.array .int)) (t' := .int) (by decide) (by decide)
theorem sn5 {Z : State} {a0 : Array Value} (hw : ∀ d ∈ tables_1, d.before a0 Z = true) : Jvm.RoadKit.slotOf Z "com/example/fireweed/fireweed/service/ShortestPaths" "previous" "[I" ≠ Jvm.RoadKit.slotOf Z "com/example/fireweed/fireweed/service/ShortestPaths" "lengthM" "[D" := slot_ne (Or.inr (own_w hw 23 rfl)) (Or.inr (own_w hw 21 rfl)) (by decide) (t := (.array .int)) (t' := (.array .double)) (by decide) (by decide)
theorem sn6 {Z : State} {a0 : Array Value} (hw : ∀ d ∈ tables_1, d.before a0 Z = true) : Jvm.RoadKit.slotOf Z "com/example/fireweed/fireweed/service/ShortestPaths" "router" "Lcom/example/fireweed/fireweed/service/Router;" ≠ Jvm.RoadKit.slotOf Z "com/example/fireweed/fireweed/service/ShortestPaths" "origin" "I" := slot_ne (Or.inr (own_w hw 17 rfl)) (Or.inr (own_w hw 19 rfl)) (by decide) (t := (.object "com/example/fireweed/fireweed/service/Router")) (t' := .int) (by decide) (by decide)
theorem sn7 {Z : State} {a0 : Array Value} (hw : ∀ d ∈ tables_1, d.before a0 Z = true) : Jvm.RoadKit.slotOf Z "com/example/fireweed/fireweed/service/ShortestPaths" "router" "Lcom/example/fireweed/fireweed/service/Router;" ≠ Jvm.RoadKit.slotOf Z "com/example/fireweed/fireweed/service/ShortestPaths" "lengthM" "[D" := slot_ne (Or.inr (own_w hw 17 rfl)) (Or.inr (own_w hw 21 rfl)) (by decide) (t := (.object "com/example/fireweed/fireweed/service/Router")) (t' := (.array .double)) (by decide) (by decide)
theorem sn8 {Z : State} {a0 : Array Value} (hw : ∀ d ∈ tables_1, d.before a0 Z = true) : Jvm.RoadKit.slotOf Z "com/example/fireweed/fireweed/service/ShortestPaths" "router" "Lcom/example/fireweed/fireweed/service/Router;" ≠ Jvm.RoadKit.slotOf Z "com/example/fireweed/fireweed/service/ShortestPaths" "previous" "[I" := slot_ne (Or.inr (own_w hw 17 rfl)) (Or.inr (own_w hw 23 rfl)) (by decide) (t := (.object "com/example/fireweed/fireweed/service/Router")) (t' := (.array .int)) (by decide) (by decide)
theorem sn9 {Z : State} {a0 : Array Value} (hw : ∀ d ∈ tables_1, d.before a0 Z = true) : Jvm.RoadKit.slotOf Z "com/example/fireweed/fireweed/service/ShortestPaths" "origin" "I" ≠ Jvm.RoadKit.slotOf Z "com/example/fireweed/fireweed/service/ShortestPaths" "lengthM" "[D" := slot_ne (Or.inr (own_w hw 19 rfl)) (Or.inr (own_w hw 21 rfl)) (by decide) (t := .int) (t' := (.array .double)) (by decide) (by decide)
theorem sn10 {Z : State} {a0 : Array Value} (hw : ∀ d ∈ tables_1, d.before a0 Z = true) : Jvm.RoadKit.slotOf Z "com/example/fireweed/fireweed/service/ShortestPaths" "origin" "I" ≠ Jvm.RoadKit.slotOf Z "com/example/fireweed/fireweed/service/ShortestPaths" "previous" "[I" := slot_ne (Or.inr (own_w hw 19 rfl)) (Or.inr (own_w hw 23 rfl)) (by decide) (t := .int) (t' := (.array .int)) (by decide) (by decide)
theorem sn11 {Z : State} {a0 : Array Value} (hw : ∀ d ∈ tables_1, d.before a0 Z = true) : Jvm.RoadKit.slotOf Z "com/example/fireweed/fireweed/service/ShortestPaths" "lengthM" "[D" ≠ Jvm.RoadKit.slotOf Z "com/example/fireweed/fireweed/service/ShortestPaths" "previous" "[I" := slot_ne (Or.inr (own_w hw 21 rfl)) (Or.inr (own_w hw 23 rfl)) (by decide) (t := (.array .double)) (t' := (.array .int)) (by decide) (by decide)
theorem d2_0 : decode prog_83_method_1_code 0 = .ok (.aload_n 0, 1) := by decide +kernel
theorem d2_1 : decode prog_83_method_1_code 1 = .ok (.invokespecial 1, 3) := by decide +kernel
theorem d2_4 : decode prog_83_method_1_code 4 = .ok (.aload_n 0, 1) := by decide +kernel
theorem d2_5 : decode prog_83_method_1_code 5 = .ok (.aload_n 1, 1) := by decide +kernel
theorem d2_6 : decode prog_83_method_1_code 6 = .ok (.putfield 7, 3) := by decide +kernel
theorem d2_9 : decode prog_83_method_1_code 9 = .ok (.aload_n 0, 1) := by decide +kernel
theorem d2_10 : decode prog_83_method_1_code 10 = .ok (.iload_n 2, 1) := by decide +kernel
theorem d2_11 : decode prog_83_method_1_code 11 = .ok (.putfield 13, 3) := by decide +kernel
theorem d2_14 : decode prog_83_method_1_code 14 = .ok (.aload_n 0, 1) := by decide +kernel
theorem d2_15 : decode prog_83_method_1_code 15 = .ok (.aload_n 3, 1) := by decide +kernel
theorem d2_16 : decode prog_83_method_1_code 16 = .ok (.putfield 17, 3) := by decide +kernel
theorem d2_19 : decode prog_83_method_1_code 19 = .ok (.aload_n 0, 1) := by decide +kernel
theorem d2_20 : decode prog_83_method_1_code 20 = .ok (.aload 4, 2) := by decide +kernel
theorem d2_22 : decode prog_83_method_1_code 22 = .ok (.putfield 21, 3) := by decide +kernel
theorem d2_25 : decode prog_83_method_1_code 25 = .ok (.return_, 1) := by decide +kernel
theorem pn1 : plainName "com/example/fireweed/fireweed/service/ShortestPaths" = true := by first | (simp [plainName, overriddenIn]; done) | decide +kernel
theorem efm2 (m : MethodId) (r0 : Addr) (p2 : Int32) (r3 : Addr) (r4 : Addr) : entryFrame m #[(.ref r0), .null, (.int p2), (.ref r3), (.ref r4)] 5 = mkF m 0 #[.val (.ref r0), .val .null, .val (.int p2), .val (.ref r3), .val (.ref r4)] [] := by first | (simp [entryFrame, mkF, argsToLocals, Value.category]; done) | rfl
def Qm2 (Z : State) (r0 : Addr) (p2 : Int32) (r3 : Addr) (r4 : Addr) (u0 : Value) (u1 : Value) (u2 : Value) (u3 : Value) (h0 : Heap) (n0 : Nat) (v : Option Value) (h : Heap) (L : List Loc) : Prop := v = none ∧ Fr n0 L ∧ (Keep h0 h [r0]) ∧ (Exa Z h r0 "com/example/fireweed/fireweed/service/ShortestPaths") ∧ (Fld Z h r0 "com/example/fireweed/fireweed/service/ShortestPaths" "router" "Lcom/example/fireweed/fireweed/service/Router;" .null) ∧ (Fld Z h r0 "com/example/fireweed/fireweed/service/ShortestPaths" "origin" "I" (.int p2)) ∧ (Fld Z h r0 "com/example/fireweed/fireweed/service/ShortestPaths" "lengthM" "[D" (.ref r3)) ∧ (Fld Z h r0 "com/example/fireweed/fireweed/service/ShortestPaths" "previous" "[I" (.ref r4))
set_option maxRecDepth 65536 in
set_option maxHeartbeats 40000000 in
theorem rmm2 (l : Launch) (Z : State) (a0 : Array Value) (hw : ∀ d ∈ tables_1, d.before a0 Z = true) (ws : List Jvm.Cond) (r0 : Addr) (p2 : Int32) (r3 : Addr) (r4 : Addr) (u0 : Value) (u1 : Value) (u2 : Value) (u3 : Value) (h0 : Heap) (n0 : Nat) (Z0 : n0 ≤ h0.size) (F_router_r0 : Fld Z h0 r0 "com/example/fireweed/fireweed/service/ShortestPaths" "router" "Lcom/example/fireweed/fireweed/service/Router;" u0) (F_origin_r0 : Fld Z h0 r0 "com/example/fireweed/fireweed/service/ShortestPaths" "origin" "I" u1) (F_lengthM_r0 : Fld Z h0 r0 "com/example/fireweed/fireweed/service/ShortestPaths" "lengthM" "[D" u2) (F_previous_r0 : Fld Z h0 r0 "com/example/fireweed/fireweed/service/ShortestPaths" "previous" "[I" u3) (E_r0 : Exa Z h0 r0 "com/example/fireweed/fireweed/service/ShortestPaths") (g_r0 : n0 ≤ r0) :
    MetFree l (⟨"com/example/fireweed/fireweed/service/ShortestPaths", "<init>", "(Lcom/example/fireweed/fireweed/service/Router;I[D[I)V"⟩ : MethodName) (head1 (Jvm.Cond.code (⟨"com/example/fireweed/fireweed/service/ShortestPaths", "<init>", "(Lcom/example/fireweed/fireweed/service/Router;I[D[I)V"⟩ : MethodName) prog_83_method_1_code 5 none :: ws) ({ frames := 1, cells := 0, slots := 0, locals := 12 } : Room)) (fun a U => a = #[(.ref r0), .null, (.int p2), (.ref r3), (.ref r4)] ∧ Z.Warmed39 U.vm ∧ U.heap = h0) (fun _ _ _ _ _ => True) (fun _ U o U' => ∃ v L, o = .returned v ∧ Qm2 Z r0 p2 r3 r4 u0 u1 u2 u3 h0 n0 v U'.heap L ∧ FrameEnd U o U' L ({ frames := 1, cells := 0, slots := 0, locals := 12 } : Room).cells ({ frames := 1, cells := 0, slots := 0, locals := 12 } : Room).slots) := by
  refine MetFree.of_bodySF (plainFor_of_name pn1) hisR ?_
  intro p e s m args below meth c s₁ Bd hml0 hP hK
  obtain ⟨rfl, hZ, hh⟩ := hP
  have hx := Bd.exec
  have hby := Bd.bytes
  have hml : c.maxLocals = 5 := hml0
  have hown : s.vm.findClass "com/example/fireweed/fireweed/service/ShortestPaths" = some m.cls := findClass_of_methodNamed Bd.named
  have hnm := (name_of_methodNamed Bd.named Bd.method).1
  have X0 : Stand p l e ({ frames := 1, cells := 0, slots := 0, locals := 12 } : Room) s m #[(.ref r0), .null, (.int p2), (.ref r3), (.ref r4)] below meth c s₁ [] 0 0 := Stand.of_body Bd
  have e0 : s₁.heap = h0 := by rw [← hh, Bd.state]; rfl
  have N0 := Fr.nil n0
  have pre0 : ∀ t, Steps p.tables e below (s₁.setTop (mkF m 0 #[.val (.ref r0), .val .null, .val (.int p2), .val (.ref r3), .val (.ref r4)] [])) t → Steps p.tables e below (s₁.setTop (entryFrame m #[(.ref r0), .null, (.int p2), (.ref r3), (.ref r4)] 5)) t := fun t k => castTop (efm2 m r0 p2 r3 r4) k
  obtain ⟨T101, X101, e101, st101⟩ := initO X0 hx hZ hown (own_w hw 13 rfl) (own_w hw 14 rfl) (own_w hw 15 rfl) e0 (g := (mkF m 1 #[.val (.ref r0), .val .null, .val (.int p2), .val (.ref r3), .val (.ref r4)] [(.ref r0)])) rfl (by rw [hml]; rfl) rfl (hb hby d2_1) (by decide) (W := 0) (by show 2 * 0 + _ ≤ _; exact Nat.le_of_eq rfl) (by decide)
  obtain ⟨T102, h102, X102, e102, W102, st102⟩ := putF X101 hx hZ hown (host := "") (Or.inl (own_w hw 16 rfl)) Via.refl e101 F_router_r0 E_r0 (Or.inr ⟨(own_w hw 17 rfl), rfl, hnm⟩) (own_w hw 8 rfl) (ty := (.object "com/example/fireweed/fireweed/service/Router")) (by decide) rfl rfl (g := (mkF m 6 #[.val (.ref r0), .val .null, .val (.int p2), .val (.ref r3), .val (.ref r4)] [.null, (.ref r0)])) rfl rfl (hb hby d2_6)
  have Fw102 := F_router_r0.same W102
  have N102 := Fr.snoc X102 N0 g_r0
  have ZZ103 : n0 ≤ h102.size := Nat.le_trans Z0 (Nat.le_of_eq W102.size.symm)
  have KK104 : Keep h0 h102 [r0] := (Keep.refl h0 [r0]).wr W102 (Or.inl (List.mem_of_getElem? (i := 0) rfl))
  have Fc105 := (F_origin_r0.other W102 (Or.inr (sn0 hw)))
  obtain ⟨T106, h106, X106, e106, W106, st106⟩ := putF X102 hx hZ hown (host := "") (Or.inl (own_w hw 18 rfl)) Via.refl e102 Fc105 (E_r0.wr W102) (Or.inr ⟨(own_w hw 19 rfl), rfl, hnm⟩) (own_w hw 8 rfl) (ty := .int) (by decide) rfl rfl (g := (mkF m 11 #[.val (.ref r0), .val .null, .val (.int p2), .val (.ref r3), .val (.ref r4)] [(.int p2), (.ref r0)])) rfl rfl (hb hby d2_11)
  have Fw106 := Fc105.same W106
  have N106 := Fr.snoc X106 N102 g_r0
  have ZZ107 : n0 ≤ h106.size := Nat.le_trans ZZ103 (Nat.le_of_eq W106.size.symm)
  have KK108 : Keep h0 h106 [r0] := KK104.wr W106 (Or.inl (List.mem_of_getElem? (i := 0) rfl))
  have Fc109 := ((F_lengthM_r0.other W102 (Or.inr (sn1 hw))).other W106 (Or.inr (sn2 hw)))
  obtain ⟨T110, h110, X110, e110, W110, st110⟩ := putF X106 hx hZ hown (host := "") (Or.inl (own_w hw 20 rfl)) Via.refl e106 Fc109 ((E_r0.wr W102).wr W106) (Or.inr ⟨(own_w hw 21 rfl), rfl, hnm⟩) (own_w hw 8 rfl) (ty := (.array .double)) (by decide) rfl rfl (g := (mkF m 16 #[.val (.ref r0), .val .null, .val (.int p2), .val (.ref r3), .val (.ref r4)] [(.ref r3), (.ref r0)])) rfl rfl (hb hby d2_16)
  have Fw110 := Fc109.same W110
  have N110 := Fr.snoc X110 N106 g_r0
  have ZZ111 : n0 ≤ h110.size := Nat.le_trans ZZ107 (Nat.le_of_eq W110.size.symm)
  have KK112 : Keep h0 h110 [r0] := KK108.wr W110 (Or.inl (List.mem_of_getElem? (i := 0) rfl))
  have Fc113 := (((F_previous_r0.other W102 (Or.inr (sn3 hw))).other W106 (Or.inr (sn4 hw))).other W110 (Or.inr (sn5 hw)))
  have Fc114 := (((E_r0.wr W102).wr W106).wr W110)
  obtain ⟨T115, h115, X115, e115, W115, st115⟩ := putF X110 hx hZ hown (host := "") (Or.inl (own_w hw 22 rfl)) Via.refl e110 Fc113 Fc114 (Or.inr ⟨(own_w hw 23 rfl), rfl, hnm⟩) (own_w hw 8 rfl) (ty := (.array .int)) (by decide) rfl rfl (g := (mkF m 22 #[.val (.ref r0), .val .null, .val (.int p2), .val (.ref r3), .val (.ref r4)] [(.ref r4), (.ref r0)])) rfl rfl (hb hby d2_22)
  have Fw115 := Fc113.same W115
  have N115 := Fr.snoc X115 N110 g_r0
  have ZZ116 : n0 ≤ h115.size := Nat.le_trans ZZ111 (Nat.le_of_eq W115.size.symm)
  have KK117 : Keep h0 h115 [r0] := KK112.wr W115 (Or.inl (List.mem_of_getElem? (i := 0) rfl))
  obtain ⟨fs, hr, hrun, hended, hW, hsame⟩ := X115.leave (v := none) (fun _ => rfl)
  refine ⟨_, _, pre0 _ ?_, hrun, hended, _, _, rfl, ?_, ⟨_, rfl⟩, hW, hsame.mono (by decide) (by decide)⟩
  · show own_S p e below s₁ m 0 #[.val (.ref r0), .val .null, .val (.int p2), .val (.ref r3), .val (.ref r4)] [] _
    refine XS.aloadN X0.here hx rfl (hb hby d2_0) rfl rfl ?_
    show own_S p e below s₁ m 1 #[.val (.ref r0), .val .null, .val (.int p2), .val (.ref r3), .val (.ref r4)] [(.ref r0)] _
    refine st101 _ ?_
    show own_S p e below T101 m 4 #[.val (.ref r0), .val .null, .val (.int p2), .val (.ref r3), .val (.ref r4)] [] _
    refine XS.aloadN X101.here hx rfl (hb hby d2_4) rfl rfl ?_
    show own_S p e below T101 m 5 #[.val (.ref r0), .val .null, .val (.int p2), .val (.ref r3), .val (.ref r4)] [(.ref r0)] _
    refine XS.aloadN X101.here hx rfl (hb hby d2_5) rfl rfl ?_
    show own_S p e below T101 m 6 #[.val (.ref r0), .val .null, .val (.int p2), .val (.ref r3), .val (.ref r4)] [.null, (.ref r0)] _
    refine st102 _ ?_
    show own_S p e below T102 m 9 #[.val (.ref r0), .val .null, .val (.int p2), .val (.ref r3), .val (.ref r4)] [] _
    refine XS.aloadN X102.here hx rfl (hb hby d2_9) rfl rfl ?_
    show own_S p e below T102 m 10 #[.val (.ref r0), .val .null, .val (.int p2), .val (.ref r3), .val (.ref r4)] [(.ref r0)] _
    refine XS.iloadN X102.here hx rfl (hb hby d2_10) rfl ?_
    show own_S p e below T102 m 11 #[.val (.ref r0), .val .null, .val (.int p2), .val (.ref r3), .val (.ref r4)] [(.int p2), (.ref r0)] _
    refine st106 _ ?_
    show own_S p e below T106 m 14 #[.val (.ref r0), .val .null, .val (.int p2), .val (.ref r3), .val (.ref r4)] [] _
    refine XS.aloadN X106.here hx rfl (hb hby d2_14) rfl rfl ?_
    show own_S p e below T106 m 15 #[.val (.ref r0), .val .null, .val (.int p2), .val (.ref r3), .val (.ref r4)] [(.ref r0)] _
    refine XS.aloadN X106.here hx rfl (hb hby d2_15) rfl rfl ?_
    show own_S p e below T106 m 16 #[.val (.ref r0), .val .null, .val (.int p2), .val (.ref r3), .val (.ref r4)] [(.ref r3), (.ref r0)] _
    refine st110 _ ?_
    show own_S p e below T110 m 19 #[.val (.ref r0), .val .null, .val (.int p2), .val (.ref r3), .val (.ref r4)] [] _
    refine XS.aloadN X110.here hx rfl (hb hby d2_19) rfl rfl ?_
    show own_S p e below T110 m 20 #[.val (.ref r0), .val .null, .val (.int p2), .val (.ref r3), .val (.ref r4)] [(.ref r0)] _
    refine XS.aload X110.here hx rfl (hb hby d2_20) rfl rfl ?_
    show own_S p e below T110 m 22 #[.val (.ref r0), .val .null, .val (.int p2), .val (.ref r3), .val (.ref r4)] [(.ref r4), (.ref r0)] _
    refine st115 _ ?_
    show own_S p e below T115 m 25 #[.val (.ref r0), .val .null, .val (.int p2), .val (.ref r3), .val (.ref r4)] [] _
    exact X115.returnOut hx Bd.returns (hb hby d2_25) hr
  · show Qm2 Z r0 p2 r3 r4 u0 u1 u2 u3 h0 n0 _ T115.heap _
    rw [e115]
    exact ⟨rfl, N115, KK117, (Fc114.wr W115), (((Fw102.other W106 (Or.inr (sn6 hw))).other W110 (Or.inr (sn7 hw))).other W115 (Or.inr (sn8 hw))), ((Fw106.other W110 (Or.inr (sn9 hw))).other W115 (Or.inr (sn10 hw))), (Fw110.other W115 (Or.inr (sn11 hw))), Fw115⟩
theorem d4_0 : decode prog_83_method_2_code 0 = .ok (.aload_n 0, 1) := by decide +kernel
theorem d4_1 : decode prog_83_method_2_code 1 = .ok (.getfield 17, 3) := by decide +kernel
theorem d4_4 : decode prog_83_method_2_code 4 = .ok (.iload_n 1, 1) := by decide +kernel
theorem d4_5 : decode prog_83_method_2_code 5 = .ok (.daload, 1) := by decide +kernel
theorem d4_6 : decode prog_83_method_2_code 6 = .ok (.ldc2_w 27, 3) := by decide +kernel
theorem d4_9 : decode prog_83_method_2_code 9 = .ok (.dcmp .g, 1) := by decide +kernel
theorem d4_10 : decode prog_83_method_2_code 10 = .ok (.ifCond .ge 7, 3) := by decide +kernel
theorem d4_13 : decode prog_83_method_2_code 13 = .ok (.iconst 1, 1) := by decide +kernel
theorem d4_14 : decode prog_83_method_2_code 14 = .ok (.goto 4, 3) := by decide +kernel
theorem d4_17 : decode prog_83_method_2_code 17 = .ok (.iconst 0, 1) := by decide +kernel
theorem d4_18 : decode prog_83_method_2_code 18 = .ok (.ireturn, 1) := by decide +kernel
theorem ef4_0 (m : MethodId) (r0 : Addr) : entryFrame m #[(.ref r0), (.int 0)] 2 = mkF m 0 #[.val (.ref r0), .val (.int 0)] [] := by first | (simp [entryFrame, mkF, argsToLocals, Value.category]; done) | rfl
def Q4_0 (Z : State) (r0 : Addr) (la : Addr) (kk : ClassId) (x0 : UInt64) (x1 : UInt64) (x2 : UInt64) (h0 : Heap) (n0 : Nat) (v : Option Value) (h : Heap) (L : List Loc) : Prop := v = some (.int (own_rch x0)) ∧ Fr n0 L ∧ (h = h0)
set_option maxRecDepth 65536 in
set_option maxHeartbeats 40000000 in
theorem rm4_0 (l : Launch) (Z : State) (a0 : Array Value) (hw : ∀ d ∈ tables_1, d.before a0 Z = true) (ws : List Jvm.Cond) (r0 : Addr) (la : Addr) (kk : ClassId) (x0 : UInt64) (x1 : UInt64) (x2 : UInt64) (h0 : Heap) (n0 : Nat) (Z0 : n0 ≤ h0.size) (F_lengthM_r0 : Fld Z h0 r0 "com/example/fireweed/fireweed/service/ShortestPaths" "lengthM" "[D" (.ref la)) (V_la : Arv Z h0 la kk .double (3 : Int32) [(.double x0), (.double x1), (.double x2)] (.double 0)) :
    MetFree l (⟨"com/example/fireweed/fireweed/service/ShortestPaths", "reaches", "(I)Z"⟩ : MethodName) (head1 (Jvm.Cond.code (⟨"com/example/fireweed/fireweed/service/ShortestPaths", "reaches", "(I)Z"⟩ : MethodName) prog_83_method_2_code 2 (some .boolean) :: ws) ({ frames := 0, cells := 0, slots := 0, locals := 0 } : Room)) (fun a U => a = #[(.ref r0), (.int 0)] ∧ Z.Warmed39 U.vm ∧ U.heap = h0) (fun _ _ _ _ _ => True) (fun _ U o U' => ∃ v L, o = .returned v ∧ Q4_0 Z r0 la kk x0 x1 x2 h0 n0 v U'.heap L ∧ FrameEnd U o U' L ({ frames := 0, cells := 0, slots := 0, locals := 0 } : Room).cells ({ frames := 0, cells := 0, slots := 0, locals := 0 } : Room).slots) := by
  refine MetFree.of_bodySF (plainFor_of_name pn1) hisR ?_
  intro p e s m args below meth c s₁ Bd hml0 hP hK
  obtain ⟨rfl, hZ, hh⟩ := hP
  have hx := Bd.exec
  have hby := Bd.bytes
  have hml : c.maxLocals = 2 := hml0
  have hown : s.vm.findClass "com/example/fireweed/fireweed/service/ShortestPaths" = some m.cls := findClass_of_methodNamed Bd.named
  have hnm := (name_of_methodNamed Bd.named Bd.method).1
  have X0 : Stand p l e ({ frames := 0, cells := 0, slots := 0, locals := 0 } : Room) s m #[(.ref r0), (.int 0)] below meth c s₁ [] 0 0 := Stand.of_body Bd
  have e0 : s₁.heap = h0 := by rw [← hh, Bd.state]; rfl
  have N0 := Fr.nil n0
  have pre0 : ∀ t, Steps p.tables e below (s₁.setTop (mkF m 0 #[.val (.ref r0), .val (.int 0)] [])) t → Steps p.tables e below (s₁.setTop (entryFrame m #[(.ref r0), (.int 0)] 2)) t := fun t k => castTop (ef4_0 m r0) k
  obtain ⟨T101, X101, e101, st101⟩ := getF X0 hx hZ hown (host := "") (Or.inl (own_w hw 20 rfl)) Via.refl e0 F_lengthM_r0 (g := (mkF m 1 #[.val (.ref r0), .val (.int 0)] [(.ref r0)])) rfl rfl (hb hby d4_1)
  obtain ⟨cl102, Ar102, qk102, Sz102, Nz102, Hh102, Gg102⟩ := V_la
  have hin102 : ¬ ((0 : Int32) < 0 ∨ cl102.slots.size ≤ ((0 : Int32)).toNatClampNeg) := inb_of Sz102 ⟨by decide, by decide⟩
  have hat102 : cl102.slots[((0 : Int32)).toNatClampNeg]? = some (.double x0) := Has.at Hh102 hin102 rfl
  have pre103 : ∀ t, Steps p.tables e below (T101.setTop (mkF m 10 #[.val (.ref r0), .val (.int 0)] [(.int (cmpValue (FP.dcmp x0 (9218868437227405312 : UInt64)) .g))])) t → Steps p.tables e below (s₁.setTop (mkF m 0 #[.val (.ref r0), .val (.int 0)] [])) t := by
    intro t kt
    show own_S p e below s₁ m 0 #[.val (.ref r0), .val (.int 0)] [] _
    refine XS.aloadN X0.here hx rfl (hb hby d4_0) rfl rfl ?_
    show own_S p e below s₁ m 1 #[.val (.ref r0), .val (.int 0)] [(.ref r0)] _
    refine st101 _ ?_
    show own_S p e below T101 m 4 #[.val (.ref r0), .val (.int 0)] [(.ref la)] _
    refine XS.iloadN X101.here hx rfl (hb hby d4_4) rfl ?_
    show own_S p e below T101 m 5 #[.val (.ref r0), .val (.int 0)] [(.int 0), (.ref la)] _
    refine X101.daload hx (j := (0 : Int32)) (v := (.double x0)) (by rw [e101]; exact Ar102.1) (State.isArrayOf_alike hZ.alike Ar102.2.1) Ar102.2.2 hin102 hat102 (g := (mkF m 5 #[.val (.ref r0), .val (.int 0)] [(.int 0), (.ref la)])) rfl rfl (hb hby d4_5) _ ?_
    show own_S p e below T101 m 6 #[.val (.ref r0), .val (.int 0)] [(.double x0)] _
    refine X101.ldc2DoubleC hx hown (mvT hZ (own_w hw 29 rfl)) (g := (mkF m 6 #[.val (.ref r0), .val (.int 0)] [(.double x0)])) rfl (hb hby d4_6) _ ?_
    show own_S p e below T101 m 9 #[.val (.ref r0), .val (.int 0)] [(.double 9218868437227405312), (.double x0)] _
    refine XS.dcmpS X101.here hx rfl (v := (cmpValue (FP.dcmp x0 (9218868437227405312 : UInt64)) .g)) (hb hby d4_9) rfl rfl ?_
    exact kt
  by_cases hl : (cmpValue (FP.dcmp x0 (9218868437227405312 : UInt64)) .g) < (0 : Int32)
  · skip
    obtain ⟨fs, hr, hrun, hended, hW, hsame⟩ := X101.leave (v := some (.int 1)) (fun h => by rw [Bd.returns] at h; cases h)
    refine ⟨_, _, pre0 _ (pre103 _ ?_), hrun, hended, _, _, rfl, ?_, ⟨_, rfl⟩, hW, hsame.mono (by decide) (by decide)⟩
    · show own_S p e below T101 m 10 #[.val (.ref r0), .val (.int 0)] [(.int (cmpValue (FP.dcmp x0 (9218868437227405312 : UInt64)) .g))] _
      refine XS.ifNo X101.here hx rfl (hb hby d4_10) rfl ((if0 _ _).trans (tlt (hl : (cmpValue (FP.dcmp x0 (9218868437227405312 : UInt64)) .g) < (0 : Int32))).2.1) ?_
      show own_S p e below T101 m 13 #[.val (.ref r0), .val (.int 0)] [] _
      refine XS.iconst X101.here hx rfl (hb hby d4_13) ?_
      show own_S p e below T101 m 14 #[.val (.ref r0), .val (.int 0)] [(.int 1)] _
      refine XS.goto X101.here hx rfl (pc0 := 14) (pc' := 18) rfl (hb hby d4_14) (by decide) (by decide) ?_
      show own_S p e below T101 m 18 #[.val (.ref r0), .val (.int 0)] [(.int 1)] _
      exact retN X101 hx (t := .boolean) Bd.returns (by simp) (hb hby d4_18) hr
    · show Q4_0 Z r0 la kk x0 x1 x2 h0 n0 _ T101.heap _
      rw [e101]
      exact ⟨(by simp [own_rch, hl]), N0, rfl⟩
  · skip
    obtain ⟨fs, hr, hrun, hended, hW, hsame⟩ := X101.leave (v := some (.int 0)) (fun h => by rw [Bd.returns] at h; cases h)
    refine ⟨_, _, pre0 _ (pre103 _ ?_), hrun, hended, _, _, rfl, ?_, ⟨_, rfl⟩, hW, hsame.mono (by decide) (by decide)⟩
    · show own_S p e below T101 m 10 #[.val (.ref r0), .val (.int 0)] [(.int (cmpValue (FP.dcmp x0 (9218868437227405312 : UInt64)) .g))] _
      refine XS.ifYes X101.here hx rfl (pc0 := 10) (pc' := 17) rfl (hb hby d4_10) rfl ((if0 _ _).trans (flt (hl : ¬ ((cmpValue (FP.dcmp x0 (9218868437227405312 : UInt64)) .g) < (0 : Int32)))).2.1) (by decide) (by decide) ?_
      show own_S p e below T101 m 17 #[.val (.ref r0), .val (.int 0)] [] _
      refine XS.iconst X101.here hx rfl (hb hby d4_17) ?_
      show own_S p e below T101 m 18 #[.val (.ref r0), .val (.int 0)] [(.int 0)] _
      exact retN X101 hx (t := .boolean) Bd.returns (by simp) (hb hby d4_18) hr
    · show Q4_0 Z r0 la kk x0 x1 x2 h0 n0 _ T101.heap _
      rw [e101]
      exact ⟨(by simp [own_rch, hl]), N0, rfl⟩
theorem ef4_1 (m : MethodId) (r0 : Addr) : entryFrame m #[(.ref r0), (.int 1)] 2 = mkF m 0 #[.val (.ref r0), .val (.int 1)] [] := by first | (simp [entryFrame, mkF, argsToLocals, Value.category]; done) | rfl
def Q4_1 (Z : State) (r0 : Addr) (la : Addr) (kk : ClassId) (x0 : UInt64) (x1 : UInt64) (x2 : UInt64) (h0 : Heap) (n0 : Nat) (v : Option Value) (h : Heap) (L : List Loc) : Prop := v = some (.int (own_rch x1)) ∧ Fr n0 L ∧ (h = h0)
set_option maxRecDepth 65536 in
set_option maxHeartbeats 40000000 in
theorem rm4_1 (l : Launch) (Z : State) (a0 : Array Value) (hw : ∀ d ∈ tables_1, d.before a0 Z = true) (ws : List Jvm.Cond) (r0 : Addr) (la : Addr) (kk : ClassId) (x0 : UInt64) (x1 : UInt64) (x2 : UInt64) (h0 : Heap) (n0 : Nat) (Z0 : n0 ≤ h0.size) (F_lengthM_r0 : Fld Z h0 r0 "com/example/fireweed/fireweed/service/ShortestPaths" "lengthM" "[D" (.ref la)) (V_la : Arv Z h0 la kk .double (3 : Int32) [(.double x0), (.double x1), (.double x2)] (.double 0)) :
    MetFree l (⟨"com/example/fireweed/fireweed/service/ShortestPaths", "reaches", "(I)Z"⟩ : MethodName) (head1 (Jvm.Cond.code (⟨"com/example/fireweed/fireweed/service/ShortestPaths", "reaches", "(I)Z"⟩ : MethodName) prog_83_method_2_code 2 (some .boolean) :: ws) ({ frames := 0, cells := 0, slots := 0, locals := 0 } : Room)) (fun a U => a = #[(.ref r0), (.int 1)] ∧ Z.Warmed39 U.vm ∧ U.heap = h0) (fun _ _ _ _ _ => True) (fun _ U o U' => ∃ v L, o = .returned v ∧ Q4_1 Z r0 la kk x0 x1 x2 h0 n0 v U'.heap L ∧ FrameEnd U o U' L ({ frames := 0, cells := 0, slots := 0, locals := 0 } : Room).cells ({ frames := 0, cells := 0, slots := 0, locals := 0 } : Room).slots) := by
  refine MetFree.of_bodySF (plainFor_of_name pn1) hisR ?_
  intro p e s m args below meth c s₁ Bd hml0 hP hK
  obtain ⟨rfl, hZ, hh⟩ := hP
  have hx := Bd.exec
  have hby := Bd.bytes
  have hml : c.maxLocals = 2 := hml0
  have hown : s.vm.findClass "com/example/fireweed/fireweed/service/ShortestPaths" = some m.cls := findClass_of_methodNamed Bd.named
  have hnm := (name_of_methodNamed Bd.named Bd.method).1
  have X0 : Stand p l e ({ frames := 0, cells := 0, slots := 0, locals := 0 } : Room) s m #[(.ref r0), (.int 1)] below meth c s₁ [] 0 0 := Stand.of_body Bd
  have e0 : s₁.heap = h0 := by rw [← hh, Bd.state]; rfl
  have N0 := Fr.nil n0
  have pre0 : ∀ t, Steps p.tables e below (s₁.setTop (mkF m 0 #[.val (.ref r0), .val (.int 1)] [])) t → Steps p.tables e below (s₁.setTop (entryFrame m #[(.ref r0), (.int 1)] 2)) t := fun t k => castTop (ef4_1 m r0) k
  obtain ⟨T101, X101, e101, st101⟩ := getF X0 hx hZ hown (host := "") (Or.inl (own_w hw 20 rfl)) Via.refl e0 F_lengthM_r0 (g := (mkF m 1 #[.val (.ref r0), .val (.int 1)] [(.ref r0)])) rfl rfl (hb hby d4_1)
  obtain ⟨cl102, Ar102, qk102, Sz102, Nz102, Hh102, Gg102⟩ := V_la
  have hin102 : ¬ ((1 : Int32) < 0 ∨ cl102.slots.size ≤ ((1 : Int32)).toNatClampNeg) := inb_of Sz102 ⟨by decide, by decide⟩
  have hat102 : cl102.slots[((1 : Int32)).toNatClampNeg]? = some (.double x1) := Has.at Hh102 hin102 rfl
  have pre103 : ∀ t, Steps p.tables e below (T101.setTop (mkF m 10 #[.val (.ref r0), .val (.int 1)] [(.int (cmpValue (FP.dcmp x1 (9218868437227405312 : UInt64)) .g))])) t → Steps p.tables e below (s₁.setTop (mkF m 0 #[.val (.ref r0), .val (.int 1)] [])) t := by
    intro t kt
    show own_S p e below s₁ m 0 #[.val (.ref r0), .val (.int 1)] [] _
    refine XS.aloadN X0.here hx rfl (hb hby d4_0) rfl rfl ?_
    show own_S p e below s₁ m 1 #[.val (.ref r0), .val (.int 1)] [(.ref r0)] _
    refine st101 _ ?_
    show own_S p e below T101 m 4 #[.val (.ref r0), .val (.int 1)] [(.ref la)] _
    refine XS.iloadN X101.here hx rfl (hb hby d4_4) rfl ?_
    show own_S p e below T101 m 5 #[.val (.ref r0), .val (.int 1)] [(.int 1), (.ref la)] _
    refine X101.daload hx (j := (1 : Int32)) (v := (.double x1)) (by rw [e101]; exact Ar102.1) (State.isArrayOf_alike hZ.alike Ar102.2.1) Ar102.2.2 hin102 hat102 (g := (mkF m 5 #[.val (.ref r0), .val (.int 1)] [(.int 1), (.ref la)])) rfl rfl (hb hby d4_5) _ ?_
    show own_S p e below T101 m 6 #[.val (.ref r0), .val (.int 1)] [(.double x1)] _
    refine X101.ldc2DoubleC hx hown (mvT hZ (own_w hw 29 rfl)) (g := (mkF m 6 #[.val (.ref r0), .val (.int 1)] [(.double x1)])) rfl (hb hby d4_6) _ ?_
    show own_S p e below T101 m 9 #[.val (.ref r0), .val (.int 1)] [(.double 9218868437227405312), (.double x1)] _
    refine XS.dcmpS X101.here hx rfl (v := (cmpValue (FP.dcmp x1 (9218868437227405312 : UInt64)) .g)) (hb hby d4_9) rfl rfl ?_
    exact kt
  by_cases hl : (cmpValue (FP.dcmp x1 (9218868437227405312 : UInt64)) .g) < (0 : Int32)
  · skip
    obtain ⟨fs, hr, hrun, hended, hW, hsame⟩ := X101.leave (v := some (.int 1)) (fun h => by rw [Bd.returns] at h; cases h)
    refine ⟨_, _, pre0 _ (pre103 _ ?_), hrun, hended, _, _, rfl, ?_, ⟨_, rfl⟩, hW, hsame.mono (by decide) (by decide)⟩
    · show own_S p e below T101 m 10 #[.val (.ref r0), .val (.int 1)] [(.int (cmpValue (FP.dcmp x1 (9218868437227405312 : UInt64)) .g))] _
      refine XS.ifNo X101.here hx rfl (hb hby d4_10) rfl ((if0 _ _).trans (tlt (hl : (cmpValue (FP.dcmp x1 (9218868437227405312 : UInt64)) .g) < (0 : Int32))).2.1) ?_
      show own_S p e below T101 m 13 #[.val (.ref r0), .val (.int 1)] [] _
      refine XS.iconst X101.here hx rfl (hb hby d4_13) ?_
      show own_S p e below T101 m 14 #[.val (.ref r0), .val (.int 1)] [(.int 1)] _
      refine XS.goto X101.here hx rfl (pc0 := 14) (pc' := 18) rfl (hb hby d4_14) (by decide) (by decide) ?_
      show own_S p e below T101 m 18 #[.val (.ref r0), .val (.int 1)] [(.int 1)] _
      exact retN X101 hx (t := .boolean) Bd.returns (by simp) (hb hby d4_18) hr
    · show Q4_1 Z r0 la kk x0 x1 x2 h0 n0 _ T101.heap _
      rw [e101]
      exact ⟨(by simp [own_rch, hl]), N0, rfl⟩
  · skip
    obtain ⟨fs, hr, hrun, hended, hW, hsame⟩ := X101.leave (v := some (.int 0)) (fun h => by rw [Bd.returns] at h; cases h)
    refine ⟨_, _, pre0 _ (pre103 _ ?_), hrun, hended, _, _, rfl, ?_, ⟨_, rfl⟩, hW, hsame.mono (by decide) (by decide)⟩
    · show own_S p e below T101 m 10 #[.val (.ref r0), .val (.int 1)] [(.int (cmpValue (FP.dcmp x1 (9218868437227405312 : UInt64)) .g))] _
      refine XS.ifYes X101.here hx rfl (pc0 := 10) (pc' := 17) rfl (hb hby d4_10) rfl ((if0 _ _).trans (flt (hl : ¬ ((cmpValue (FP.dcmp x1 (9218868437227405312 : UInt64)) .g) < (0 : Int32)))).2.1) (by decide) (by decide) ?_
      show own_S p e below T101 m 17 #[.val (.ref r0), .val (.int 1)] [] _
      refine XS.iconst X101.here hx rfl (hb hby d4_17) ?_
      show own_S p e below T101 m 18 #[.val (.ref r0), .val (.int 1)] [(.int 0)] _
      exact retN X101 hx (t := .boolean) Bd.returns (by simp) (hb hby d4_18) hr
    · show Q4_1 Z r0 la kk x0 x1 x2 h0 n0 _ T101.heap _
      rw [e101]
      exact ⟨(by simp [own_rch, hl]), N0, rfl⟩
theorem ef4_2 (m : MethodId) (r0 : Addr) : entryFrame m #[(.ref r0), (.int 2)] 2 = mkF m 0 #[.val (.ref r0), .val (.int 2)] [] := by first | (simp [entryFrame, mkF, argsToLocals, Value.category]; done) | rfl
def Q4_2 (Z : State) (r0 : Addr) (la : Addr) (kk : ClassId) (x0 : UInt64) (x1 : UInt64) (x2 : UInt64) (h0 : Heap) (n0 : Nat) (v : Option Value) (h : Heap) (L : List Loc) : Prop := v = some (.int (own_rch x2)) ∧ Fr n0 L ∧ (h = h0)
set_option maxRecDepth 65536 in
set_option maxHeartbeats 40000000 in
theorem rm4_2 (l : Launch) (Z : State) (a0 : Array Value) (hw : ∀ d ∈ tables_1, d.before a0 Z = true) (ws : List Jvm.Cond) (r0 : Addr) (la : Addr) (kk : ClassId) (x0 : UInt64) (x1 : UInt64) (x2 : UInt64) (h0 : Heap) (n0 : Nat) (Z0 : n0 ≤ h0.size) (F_lengthM_r0 : Fld Z h0 r0 "com/example/fireweed/fireweed/service/ShortestPaths" "lengthM" "[D" (.ref la)) (V_la : Arv Z h0 la kk .double (3 : Int32) [(.double x0), (.double x1), (.double x2)] (.double 0)) :
    MetFree l (⟨"com/example/fireweed/fireweed/service/ShortestPaths", "reaches", "(I)Z"⟩ : MethodName) (head1 (Jvm.Cond.code (⟨"com/example/fireweed/fireweed/service/ShortestPaths", "reaches", "(I)Z"⟩ : MethodName) prog_83_method_2_code 2 (some .boolean) :: ws) ({ frames := 0, cells := 0, slots := 0, locals := 0 } : Room)) (fun a U => a = #[(.ref r0), (.int 2)] ∧ Z.Warmed39 U.vm ∧ U.heap = h0) (fun _ _ _ _ _ => True) (fun _ U o U' => ∃ v L, o = .returned v ∧ Q4_2 Z r0 la kk x0 x1 x2 h0 n0 v U'.heap L ∧ FrameEnd U o U' L ({ frames := 0, cells := 0, slots := 0, locals := 0 } : Room).cells ({ frames := 0, cells := 0, slots := 0, locals := 0 } : Room).slots) := by
  refine MetFree.of_bodySF (plainFor_of_name pn1) hisR ?_
  intro p e s m args below meth c s₁ Bd hml0 hP hK
  obtain ⟨rfl, hZ, hh⟩ := hP
  have hx := Bd.exec
  have hby := Bd.bytes
  have hml : c.maxLocals = 2 := hml0
  have hown : s.vm.findClass "com/example/fireweed/fireweed/service/ShortestPaths" = some m.cls := findClass_of_methodNamed Bd.named
  have hnm := (name_of_methodNamed Bd.named Bd.method).1
  have X0 : Stand p l e ({ frames := 0, cells := 0, slots := 0, locals := 0 } : Room) s m #[(.ref r0), (.int 2)] below meth c s₁ [] 0 0 := Stand.of_body Bd
  have e0 : s₁.heap = h0 := by rw [← hh, Bd.state]; rfl
  have N0 := Fr.nil n0
  have pre0 : ∀ t, Steps p.tables e below (s₁.setTop (mkF m 0 #[.val (.ref r0), .val (.int 2)] [])) t → Steps p.tables e below (s₁.setTop (entryFrame m #[(.ref r0), (.int 2)] 2)) t := fun t k => castTop (ef4_2 m r0) k
  obtain ⟨T101, X101, e101, st101⟩ := getF X0 hx hZ hown (host := "") (Or.inl (own_w hw 20 rfl)) Via.refl e0 F_lengthM_r0 (g := (mkF m 1 #[.val (.ref r0), .val (.int 2)] [(.ref r0)])) rfl rfl (hb hby d4_1)
  obtain ⟨cl102, Ar102, qk102, Sz102, Nz102, Hh102, Gg102⟩ := V_la
  have hin102 : ¬ ((2 : Int32) < 0 ∨ cl102.slots.size ≤ ((2 : Int32)).toNatClampNeg) := inb_of Sz102 ⟨by decide, by decide⟩
  have hat102 : cl102.slots[((2 : Int32)).toNatClampNeg]? = some (.double x2) := Has.at Hh102 hin102 rfl
  have pre103 : ∀ t, Steps p.tables e below (T101.setTop (mkF m 10 #[.val (.ref r0), .val (.int 2)] [(.int (cmpValue (FP.dcmp x2 (9218868437227405312 : UInt64)) .g))])) t → Steps p.tables e below (s₁.setTop (mkF m 0 #[.val (.ref r0), .val (.int 2)] [])) t := by
    intro t kt
    show own_S p e below s₁ m 0 #[.val (.ref r0), .val (.int 2)] [] _
    refine XS.aloadN X0.here hx rfl (hb hby d4_0) rfl rfl ?_
    show own_S p e below s₁ m 1 #[.val (.ref r0), .val (.int 2)] [(.ref r0)] _
    refine st101 _ ?_
    show own_S p e below T101 m 4 #[.val (.ref r0), .val (.int 2)] [(.ref la)] _
    refine XS.iloadN X101.here hx rfl (hb hby d4_4) rfl ?_
    show own_S p e below T101 m 5 #[.val (.ref r0), .val (.int 2)] [(.int 2), (.ref la)] _
    refine X101.daload hx (j := (2 : Int32)) (v := (.double x2)) (by rw [e101]; exact Ar102.1) (State.isArrayOf_alike hZ.alike Ar102.2.1) Ar102.2.2 hin102 hat102 (g := (mkF m 5 #[.val (.ref r0), .val (.int 2)] [(.int 2), (.ref la)])) rfl rfl (hb hby d4_5) _ ?_
    show own_S p e below T101 m 6 #[.val (.ref r0), .val (.int 2)] [(.double x2)] _
    refine X101.ldc2DoubleC hx hown (mvT hZ (own_w hw 29 rfl)) (g := (mkF m 6 #[.val (.ref r0), .val (.int 2)] [(.double x2)])) rfl (hb hby d4_6) _ ?_
    show own_S p e below T101 m 9 #[.val (.ref r0), .val (.int 2)] [(.double 9218868437227405312), (.double x2)] _
    refine XS.dcmpS X101.here hx rfl (v := (cmpValue (FP.dcmp x2 (9218868437227405312 : UInt64)) .g)) (hb hby d4_9) rfl rfl ?_
    exact kt
  by_cases hl : (cmpValue (FP.dcmp x2 (9218868437227405312 : UInt64)) .g) < (0 : Int32)
  · skip
    obtain ⟨fs, hr, hrun, hended, hW, hsame⟩ := X101.leave (v := some (.int 1)) (fun h => by rw [Bd.returns] at h; cases h)
    refine ⟨_, _, pre0 _ (pre103 _ ?_), hrun, hended, _, _, rfl, ?_, ⟨_, rfl⟩, hW, hsame.mono (by decide) (by decide)⟩
    · show own_S p e below T101 m 10 #[.val (.ref r0), .val (.int 2)] [(.int (cmpValue (FP.dcmp x2 (9218868437227405312 : UInt64)) .g))] _
      refine XS.ifNo X101.here hx rfl (hb hby d4_10) rfl ((if0 _ _).trans (tlt (hl : (cmpValue (FP.dcmp x2 (9218868437227405312 : UInt64)) .g) < (0 : Int32))).2.1) ?_
      show own_S p e below T101 m 13 #[.val (.ref r0), .val (.int 2)] [] _
      refine XS.iconst X101.here hx rfl (hb hby d4_13) ?_
      show own_S p e below T101 m 14 #[.val (.ref r0), .val (.int 2)] [(.int 1)] _
      refine XS.goto X101.here hx rfl (pc0 := 14) (pc' := 18) rfl (hb hby d4_14) (by decide) (by decide) ?_
      show own_S p e below T101 m 18 #[.val (.ref r0), .val (.int 2)] [(.int 1)] _
      exact retN X101 hx (t := .boolean) Bd.returns (by simp) (hb hby d4_18) hr
    · show Q4_2 Z r0 la kk x0 x1 x2 h0 n0 _ T101.heap _
      rw [e101]
      exact ⟨(by simp [own_rch, hl]), N0, rfl⟩
  · skip
    obtain ⟨fs, hr, hrun, hended, hW, hsame⟩ := X101.leave (v := some (.int 0)) (fun h => by rw [Bd.returns] at h; cases h)
    refine ⟨_, _, pre0 _ (pre103 _ ?_), hrun, hended, _, _, rfl, ?_, ⟨_, rfl⟩, hW, hsame.mono (by decide) (by decide)⟩
    · show own_S p e below T101 m 10 #[.val (.ref r0), .val (.int 2)] [(.int (cmpValue (FP.dcmp x2 (9218868437227405312 : UInt64)) .g))] _
      refine XS.ifYes X101.here hx rfl (pc0 := 10) (pc' := 17) rfl (hb hby d4_10) rfl ((if0 _ _).trans (flt (hl : ¬ ((cmpValue (FP.dcmp x2 (9218868437227405312 : UInt64)) .g) < (0 : Int32)))).2.1) (by decide) (by decide) ?_
      show own_S p e below T101 m 17 #[.val (.ref r0), .val (.int 2)] [] _
      refine XS.iconst X101.here hx rfl (hb hby d4_17) ?_
      show own_S p e below T101 m 18 #[.val (.ref r0), .val (.int 2)] [(.int 0)] _
      exact retN X101 hx (t := .boolean) Bd.returns (by simp) (hb hby d4_18) hr
    · show Q4_2 Z r0 la kk x0 x1 x2 h0 n0 _ T101.heap _
      rw [e101]
      exact ⟨(by simp [own_rch, hl]), N0, rfl⟩
theorem pd0 : parseMethodDescriptor "(IJ)D" = some ⟨[.int, .long], some .double⟩ := by decide +kernel
theorem pd1 : parseMethodDescriptor "(Lcom/example/fireweed/fireweed/service/Router;I[D[I)V" = some ⟨[(.object "com/example/fireweed/fireweed/service/Router"), .int, (.array .double), (.array .int)], none⟩ := by decide +kernel
theorem pd2 : parseMethodDescriptor "(I)Z" = some ⟨[.int], some .boolean⟩ := by decide +kernel
theorem efm0 (m : MethodId) (p0 : Int32) (q1 : Int64) (q2 : Int64) (q3 : Int64) (p4 : Int32) : entryFrame m #[(.int p0), (.long q1), (.long q2), (.long q3), (.int p4)] maxLocals = mkF m 0 #[.val (.int p0), .val (.long q1), .second, .val (.long q2), .second, .val (.long q3), .second, .val (.int p4), .unset, .unset, .unset, .unset, .unset, .unset, .unset, .unset, .unset] [] := by first | (simp [entryFrame, mkF, argsToLocals, Value.category, maxLocals]; done) | rfl
def Qm0 (Z : State) (p0 : Int32) (q1 : Int64) (q2 : Int64) (q3 : Int64) (p4 : Int32) (h0 : Heap) (n0 : Nat) (v : Option Value) (h : Heap) (L : List Loc) : Prop := v = some (.int 1) ∧ Fr n0 L
set_option maxRecDepth 65536 in
set_option maxHeartbeats 40000000 in
theorem rmm0 (l : Launch) (Z : State) (a0 : Array Value) (hw : ∀ d ∈ tables_1, d.before a0 Z = true) (ws : List Jvm.Cond) (p0 : Int32) (q1 : Int64) (q2 : Int64) (q3 : Int64) (p4 : Int32) (h0 : Heap) (n0 : Nat) (Z0 : n0 ≤ h0.size)  :
    MetFree l x (head1 (Jvm.Cond.code x code maxLocals ret :: ws) room_1) (fun a U => a = #[(.int p0), (.long q1), (.long q2), (.long q3), (.int p4)] ∧ Z.Warmed39 U.vm ∧ U.heap = h0) (fun _ _ _ _ _ => True) (fun _ U o U' => ∃ v L, o = .returned v ∧ Qm0 Z p0 q1 q2 q3 p4 h0 n0 v U'.heap L ∧ FrameEnd U o U' L room_1.cells room_1.slots) := by
  refine MetFree.of_bodySF (plainFor_of_name pn0) hisR ?_
  intro p e s m args below meth c s₁ Bd hml0 hP hK
  obtain ⟨rfl, hZ, hh⟩ := hP
  have hx := Bd.exec
  have hby := Bd.bytes
  have hml : c.maxLocals = 17 := hml0
  have hown : s.vm.findClass "com/example/fireweed/fireweed/service/ShortestPathsReachesPinLaw" = some m.cls := findClass_of_methodNamed Bd.named
  have hnm := (name_of_methodNamed Bd.named Bd.method).1
  have X0 : Stand p l e room_1 s m #[(.int p0), (.long q1), (.long q2), (.long q3), (.int p4)] below meth c s₁ [] 0 0 := Stand.of_body Bd
  have e0 : s₁.heap = h0 := by rw [← hh, Bd.state]; rfl
  have N0 := Fr.nil n0
  have pre0 : ∀ t, Steps p.tables e below (s₁.setTop (mkF m 0 #[.val (.int p0), .val (.long q1), .second, .val (.long q2), .second, .val (.long q3), .second, .val (.int p4), .unset, .unset, .unset, .unset, .unset, .unset, .unset, .unset, .unset] [])) t → Steps p.tables e below (s₁.setTop (entryFrame m #[(.int p0), (.long q1), (.long q2), (.long q3), (.int p4)] maxLocals)) t := fun t k => castTop (efm0 m p0 q1 q2 q3 p4) k
  obtain ⟨k0, hk0⟩ : ∃ z, z = p0 &&& (3 : Int32) := ⟨_, rfl⟩
  obtain ⟨k1, hk1⟩ : ∃ z, z = ((p0.toUInt32 >>> ((2 : Int32) &&& 31).toUInt32).toInt32) &&& (3 : Int32) := ⟨_, rfl⟩
  obtain ⟨k2, hk2⟩ : ∃ z, z = ((p0.toUInt32 >>> ((4 : Int32) &&& 31).toUInt32).toInt32) &&& (3 : Int32) := ⟨_, rfl⟩
  obtain ⟨T101, h101, k101, X101, e101, E101, A101, st101⟩ := newP X0 hx hZ (own_w hw 0 rfl) e0 (g := (mkF m 20 #[.val (.int p0), .val (.long q1), .second, .val (.long q2), .second, .val (.long q3), .second, .val (.int p4), .val (.int k0), .val (.int k1), .val (.int k2), .unset, .unset, .unset, .unset, .unset, .unset] [(.int 3)])) rfl (hb hby at_20) rfl (by decide) (cap := 3) (by decide) (by decide) (by decide) (by decide)
  obtain ⟨b101, g101⟩ : ∃ z, z = h0.size := ⟨_, rfl⟩
  rw [← g101] at A101 st101
  have g_b101 : n0 ≤ b101 := Nat.le_trans Z0 (Nat.le_of_eq g101.symm)
  have ZZ102 : n0 ≤ h101.size := Nat.le_trans Z0 E101.1
  have V_b101 : Arv Z h101 b101 k101 .double (3 : Int32) [(.double 0), (.double 0), (.double 0)] (.double 0) := (Arv.new A101 (by decide)).pad (pad_rep [] (.double 0) 3)
  obtain ⟨_, _, ⟨T103, L103, k103, n103⟩, -, X103, ⟨Lc103, hQ103, l103, y103, z103⟩, st103⟩ := Jvm.LawKit.callS X101 hx (y := (⟨"com/example/fireweed/fireweed/service/ShortestPathsReachesPinLaw", "value", "(IJ)D"⟩ : MethodName)) hown (mvT hZ (own_w hw 1 rfl)) (mvT hZ (own_w hw 2 rfl)) (mvT hZ (own_w hw 3 rfl)) (mvT hZ (own_w hw 4 rfl)) (by decide) (backOf (W := 2) (rmm1 l Z a0 hw [] k0 q1 h101 n0 ZZ102 ) hZ (own_w hw 4 rfl) (own_w hw 3 rfl) (by decide) (by decide)) (g := (mkF m 30 #[.val (.int p0), .val (.long q1), .second, .val (.long q2), .second, .val (.long q3), .second, .val (.int p4), .val (.int k0), .val (.int k1), .val (.int k2), .val (.ref b101), .unset, .unset, .unset, .unset, .unset] [(.long q1), (.int k0), (.int 0), (.ref b101)])) rfl (by rw [hml]; rfl) (argsL := [(.int k0), (.long q1)]) (rest := [(.int 0), (.ref b101)]) (lenOf pd0 rfl) rfl (by show 2 * 0 + _ ≤ _; exact Nat.le_of_eq rfl) (hb hby at_30) (fun _ _ => ⟨rfl, e101, (by decide : 1 + 0 ≤ _), (by decide : 3 + 0 ≤ _)⟩)
  dsimp only [Pt.U, Pt.locs, Pt.cells, Pt.slots] at X103 l103 y103 z103 st103 hQ103
  subst l103 y103 z103
  obtain ⟨rfl, Nq103, P103_0⟩ := hQ103
  have N103 := Fr.app N0 Nq103
  obtain ⟨cl104, Ar104, qk104, Sz104, Nz104, Hh104, Gg104⟩ := V_b101
  have hin104 : ¬ ((0 : Int32) < 0 ∨ cl104.slots.size ≤ ((0 : Int32)).toNatClampNeg) := inb_of Sz104 ⟨by decide, by decide⟩
  obtain ⟨T105, h105, X105, e105, W105, st105⟩ := stD X103 hx hZ P103_0 Ar104 (j := (0 : Int32)) hin104 (g := (mkF m 33 #[.val (.int p0), .val (.long q1), .second, .val (.long q2), .second, .val (.long q3), .second, .val (.int p4), .val (.int k0), .val (.int k1), .val (.int k2), .val (.ref b101), .unset, .unset, .unset, .unset, .unset] [(.double (own_value k0 q1)), (.int 0), (.ref b101)])) rfl rfl (hb hby at_33)
  have Va105 := Arv.set Ar104 qk104 Sz104 Nz104 Hh104 Gg104 rfl W105 0 rfl (Nat.le_of_ble_eq_true rfl)
  have N105 := Fr.snoc X105 N103 g_b101
  have ZZ106 : n0 ≤ h105.size := Nat.le_trans ZZ102 (Nat.le_of_eq W105.size.symm)
  obtain ⟨_, _, ⟨T107, L107, k107, n107⟩, -, X107, ⟨Lc107, hQ107, l107, y107, z107⟩, st107⟩ := Jvm.LawKit.callS X105 hx (y := (⟨"com/example/fireweed/fireweed/service/ShortestPathsReachesPinLaw", "value", "(IJ)D"⟩ : MethodName)) hown (mvT hZ (own_w hw 1 rfl)) (mvT hZ (own_w hw 2 rfl)) (mvT hZ (own_w hw 3 rfl)) (mvT hZ (own_w hw 4 rfl)) (by decide) (backOf (W := 2) (rmm1 l Z a0 hw [] k1 q2 h105 n0 ZZ106 ) hZ (own_w hw 4 rfl) (own_w hw 3 rfl) (by decide) (by decide)) (g := (mkF m 40 #[.val (.int p0), .val (.long q1), .second, .val (.long q2), .second, .val (.long q3), .second, .val (.int p4), .val (.int k0), .val (.int k1), .val (.int k2), .val (.ref b101), .unset, .unset, .unset, .unset, .unset] [(.long q2), (.int k1), (.int 1), (.ref b101)])) rfl (by rw [hml]; rfl) (argsL := [(.int k1), (.long q2)]) (rest := [(.int 1), (.ref b101)]) (lenOf pd0 rfl) rfl (by show 2 * 0 + _ ≤ _; exact Nat.le_of_eq rfl) (hb hby at_40) (fun _ _ => ⟨rfl, e105, (by decide : 1 + 0 ≤ _), (by decide : 3 + 0 ≤ _)⟩)
  dsimp only [Pt.U, Pt.locs, Pt.cells, Pt.slots] at X107 l107 y107 z107 st107 hQ107
  subst l107 y107 z107
  obtain ⟨rfl, Nq107, P107_0⟩ := hQ107
  have N107 := Fr.app N105 Nq107
  obtain ⟨cl108, Ar108, qk108, Sz108, Nz108, Hh108, Gg108⟩ := Va105
  have hin108 : ¬ ((1 : Int32) < 0 ∨ cl108.slots.size ≤ ((1 : Int32)).toNatClampNeg) := inb_of Sz108 ⟨by decide, by decide⟩
  obtain ⟨T109, h109, X109, e109, W109, st109⟩ := stD X107 hx hZ P107_0 Ar108 (j := (1 : Int32)) hin108 (g := (mkF m 43 #[.val (.int p0), .val (.long q1), .second, .val (.long q2), .second, .val (.long q3), .second, .val (.int p4), .val (.int k0), .val (.int k1), .val (.int k2), .val (.ref b101), .unset, .unset, .unset, .unset, .unset] [(.double (own_value k1 q2)), (.int 1), (.ref b101)])) rfl rfl (hb hby at_43)
  have Va109 := Arv.set Ar108 qk108 Sz108 Nz108 Hh108 Gg108 rfl W109 1 rfl (Nat.le_of_ble_eq_true rfl)
  have N109 := Fr.snoc X109 N107 g_b101
  have ZZ110 : n0 ≤ h109.size := Nat.le_trans ZZ106 (Nat.le_of_eq W109.size.symm)
  obtain ⟨_, _, ⟨T111, L111, k111, n111⟩, -, X111, ⟨Lc111, hQ111, l111, y111, z111⟩, st111⟩ := Jvm.LawKit.callS X109 hx (y := (⟨"com/example/fireweed/fireweed/service/ShortestPathsReachesPinLaw", "value", "(IJ)D"⟩ : MethodName)) hown (mvT hZ (own_w hw 1 rfl)) (mvT hZ (own_w hw 2 rfl)) (mvT hZ (own_w hw 3 rfl)) (mvT hZ (own_w hw 4 rfl)) (by decide) (backOf (W := 2) (rmm1 l Z a0 hw [] k2 q3 h109 n0 ZZ110 ) hZ (own_w hw 4 rfl) (own_w hw 3 rfl) (by decide) (by decide)) (g := (mkF m 51 #[.val (.int p0), .val (.long q1), .second, .val (.long q2), .second, .val (.long q3), .second, .val (.int p4), .val (.int k0), .val (.int k1), .val (.int k2), .val (.ref b101), .unset, .unset, .unset, .unset, .unset] [(.long q3), (.int k2), (.int 2), (.ref b101)])) rfl (by rw [hml]; rfl) (argsL := [(.int k2), (.long q3)]) (rest := [(.int 2), (.ref b101)]) (lenOf pd0 rfl) rfl (by show 2 * 0 + _ ≤ _; exact Nat.le_of_eq rfl) (hb hby at_51) (fun _ _ => ⟨rfl, e109, (by decide : 1 + 0 ≤ _), (by decide : 3 + 0 ≤ _)⟩)
  dsimp only [Pt.U, Pt.locs, Pt.cells, Pt.slots] at X111 l111 y111 z111 st111 hQ111
  subst l111 y111 z111
  obtain ⟨rfl, Nq111, P111_0⟩ := hQ111
  have N111 := Fr.app N109 Nq111
  obtain ⟨cl112, Ar112, qk112, Sz112, Nz112, Hh112, Gg112⟩ := Va109
  have hin112 : ¬ ((2 : Int32) < 0 ∨ cl112.slots.size ≤ ((2 : Int32)).toNatClampNeg) := inb_of Sz112 ⟨by decide, by decide⟩
  obtain ⟨T113, h113, X113, e113, W113, st113⟩ := stD X111 hx hZ P111_0 Ar112 (j := (2 : Int32)) hin112 (g := (mkF m 54 #[.val (.int p0), .val (.long q1), .second, .val (.long q2), .second, .val (.long q3), .second, .val (.int p4), .val (.int k0), .val (.int k1), .val (.int k2), .val (.ref b101), .unset, .unset, .unset, .unset, .unset] [(.double (own_value k2 q3)), (.int 2), (.ref b101)])) rfl rfl (hb hby at_54)
  have Va113 := Arv.set Ar112 qk112 Sz112 Nz112 Hh112 Gg112 rfl W113 2 rfl (Nat.le_of_ble_eq_true rfl)
  have N113 := Fr.snoc X113 N111 g_b101
  have ZZ114 : n0 ≤ h113.size := Nat.le_trans ZZ110 (Nat.le_of_eq W113.size.symm)
  obtain ⟨T115, h115, k115, X115, e115, E115, A115, st115⟩ := newP X113 hx hZ (own_w hw 6 rfl) e113 (g := (mkF m 56 #[.val (.int p0), .val (.long q1), .second, .val (.long q2), .second, .val (.long q3), .second, .val (.int p4), .val (.int k0), .val (.int k1), .val (.int k2), .val (.ref b101), .unset, .unset, .unset, .unset, .unset] [(.int 3)])) rfl (hb hby at_56) rfl (by decide) (cap := 3) (by decide) (by decide) (by decide) (by decide)
  obtain ⟨b115, g115⟩ : ∃ z, z = h113.size := ⟨_, rfl⟩
  rw [← g115] at A115 st115
  have g_b115 : n0 ≤ b115 := Nat.le_trans ZZ114 (Nat.le_of_eq g115.symm)
  have ZZ116 : n0 ≤ h115.size := Nat.le_trans ZZ114 E115.1
  have V_b115 : Arv Z h115 b115 k115 .int (3 : Int32) [(.int 0), (.int 0), (.int 0)] (.int 0) := (Arv.new A115 (by decide)).pad (pad_rep [] (.int 0) 3)
  obtain ⟨T117, h117, X117, e117, E117, A117, D117, -, st117⟩ := newO X115 hx hZ hown (own_w hw 7 rfl) (own_w hw 8 rfl) (own_w hw 9 rfl) e115 (g := (mkF m 60 #[.val (.int p0), .val (.long q1), .second, .val (.long q2), .second, .val (.long q3), .second, .val (.int p4), .val (.int k0), .val (.int k1), .val (.int k2), .val (.ref b101), .val (.ref b115), .unset, .unset, .unset, .unset] [])) rfl (hb hby at_60) (by decide) (by decide)
  obtain ⟨b117, g117⟩ : ∃ z, z = h115.size := ⟨_, rfl⟩
  rw [← g117] at A117 D117 st117
  have g_b117 : n0 ≤ b117 := Nat.le_trans ZZ116 (Nat.le_of_eq g117.symm)
  have ZZ118 : n0 ≤ h117.size := Nat.le_trans ZZ116 E117.1
  have F_router_b117 : Fld Z h117 b117 "com/example/fireweed/fireweed/service/ShortestPaths" "router" "Lcom/example/fireweed/fireweed/service/Router;" .null := D117 (Or.inr (own_w hw 17 rfl)) (ty := (.object "com/example/fireweed/fireweed/service/Router")) (by decide)
  have F_origin_b117 : Fld Z h117 b117 "com/example/fireweed/fireweed/service/ShortestPaths" "origin" "I" (.int 0) := D117 (Or.inr (own_w hw 19 rfl)) (ty := .int) (by decide)
  have F_lengthM_b117 : Fld Z h117 b117 "com/example/fireweed/fireweed/service/ShortestPaths" "lengthM" "[D" .null := D117 (Or.inr (own_w hw 21 rfl)) (ty := (.array .double)) (by decide)
  have F_previous_b117 : Fld Z h117 b117 "com/example/fireweed/fireweed/service/ShortestPaths" "previous" "[I" .null := D117 (Or.inr (own_w hw 23 rfl)) (ty := (.array .int)) (by decide)
  obtain ⟨_, _, ⟨T119, L119, k119, n119⟩, -, X119, ⟨Lc119, hQ119, l119, y119, z119⟩, st119⟩ := X117.specialBack hx (y := (⟨"com/example/fireweed/fireweed/service/ShortestPaths", "<init>", "(Lcom/example/fireweed/fireweed/service/Router;I[D[I)V"⟩ : MethodName)) rfl hown (mvT hZ (own_w hw 10 rfl)) (mvT hZ (own_w hw 11 rfl)) (mvT hZ (own_w hw 12 rfl)) (by decide) (backOf (W := 1) (rmm2 l Z a0 hw [] b117 p4 b101 b115 .null (.int 0) .null .null h117 n0 ZZ118 F_router_b117 F_origin_b117 F_lengthM_b117 F_previous_b117 A117 g_b117) hZ (own_w hw 12 rfl) (own_w hw 9 rfl) (by decide) (by decide)) (g := (mkF m 71 #[.val (.int p0), .val (.long q1), .second, .val (.long q2), .second, .val (.long q3), .second, .val (.int p4), .val (.int k0), .val (.int k1), .val (.int k2), .val (.ref b101), .val (.ref b115), .unset, .unset, .unset, .unset] [(.ref b115), (.ref b101), (.int p4), .null, (.ref b117), (.ref b117)])) rfl (by rw [hml]; rfl) (Steps.refl _) (a := b117) (argsL := [.null, (.int p4), (.ref b101), (.ref b115)]) (rest := [(.ref b117)]) (lenOf pd1 rfl) rfl (by show 2 * 0 + _ ≤ _; exact Nat.le_of_eq rfl) (hb hby at_71) (fun _ _ => ⟨rfl, e117, (by decide : 3 + 0 ≤ _), (by decide : 10 + 0 ≤ _)⟩)
  dsimp only [Pt.U, Pt.locs, Pt.cells, Pt.slots] at X119 l119 y119 z119 st119 hQ119
  subst l119 y119 z119
  obtain ⟨rfl, Nq119, P119_0, P119_1, P119_2, P119_3, P119_4, P119_5⟩ := hQ119
  have N119 := Fr.app N113 Nq119
  have ZZ120 : n0 ≤ T119.heap.size := Nat.le_trans ZZ118 P119_0.1
  have Fc121 := (((Va113.ext E115).ext E117).keep P119_0 (ninS (Nat.ne_of_lt (Nat.lt_of_lt_of_le (Va113.ext E115).lt (Nat.le_of_eq g117.symm))) nin0))
  obtain ⟨cq122, kq122, q122a, q122b, q122c⟩ := isOf hZ rfl P119_1
  obtain ⟨_, _, ⟨T122, L122, k122, n122⟩, -, X122, ⟨Lc122, hQ122, l122, y122, z122⟩, st122⟩ := X119.virtualBack hx (y := (⟨"com/example/fireweed/fireweed/service/ShortestPaths", "reaches", "(I)Z"⟩ : MethodName)) (z := (⟨"com/example/fireweed/fireweed/service/ShortestPaths", "reaches", "(I)Z"⟩ : MethodName)) hown (mvT hZ (own_w hw 24 rfl)) (mvT hZ (own_w hw 25 rfl)) (notFace_of_selects (args := #[]) (mvT hZ (own_w hw 27 rfl))) (mvT hZ (own_w hw 27 rfl)) (mvT hZ (own_w hw 26 rfl)) (by decide) (backOf (W := 0) (rm4_0 l Z a0 hw [] b117 b101 k101 (own_value k0 q1) (own_value k1 q2) (own_value k2 q3) T119.heap n0 ZZ120 P119_4 Fc121) hZ (own_w hw 28 rfl) (own_w hw 9 rfl) (by decide) (by decide)) q122a q122c (g := (mkF m 79 #[.val (.int p0), .val (.long q1), .second, .val (.long q2), .second, .val (.long q3), .second, .val (.int p4), .val (.int k0), .val (.int k1), .val (.int k2), .val (.ref b101), .val (.ref b115), .val (.ref b117), .unset, .unset, .unset] [(.int 0), (.ref b117)])) rfl (by rw [hml]; rfl) (Steps.refl _) (argsL := [(.int 0)]) (rest := []) (lenOf pd2 rfl) rfl (by show 2 * 0 + _ ≤ _; exact Nat.le_of_eq rfl) (hb hby at_79) (fun _ _ => ⟨rfl, rfl, (by decide : 3 + 0 ≤ _), (by decide : 10 + 0 ≤ _)⟩)
  dsimp only [Pt.U, Pt.locs, Pt.cells, Pt.slots] at X122 l122 y122 z122 st122 hQ122
  subst l122 y122 z122
  obtain ⟨rfl, Nq122, P122_0⟩ := hQ122
  have N122 := Fr.app N119 Nq122
  obtain ⟨cq123, kq123, q123a, q123b, q123c⟩ := isOf hZ P122_0 P119_1
  obtain ⟨_, _, ⟨T123, L123, k123, n123⟩, -, X123, ⟨Lc123, hQ123, l123, y123, z123⟩, st123⟩ := X122.virtualBack hx (y := (⟨"com/example/fireweed/fireweed/service/ShortestPaths", "reaches", "(I)Z"⟩ : MethodName)) (z := (⟨"com/example/fireweed/fireweed/service/ShortestPaths", "reaches", "(I)Z"⟩ : MethodName)) hown (mvT hZ (own_w hw 24 rfl)) (mvT hZ (own_w hw 25 rfl)) (notFace_of_selects (args := #[]) (mvT hZ (own_w hw 27 rfl))) (mvT hZ (own_w hw 27 rfl)) (mvT hZ (own_w hw 26 rfl)) (by decide) (backOf (W := 0) (rm4_1 l Z a0 hw [] b117 b101 k101 (own_value k0 q1) (own_value k1 q2) (own_value k2 q3) T119.heap n0 ZZ120 P119_4 Fc121) hZ (own_w hw 28 rfl) (own_w hw 9 rfl) (by decide) (by decide)) q123a q123c (g := (mkF m 87 #[.val (.int p0), .val (.long q1), .second, .val (.long q2), .second, .val (.long q3), .second, .val (.int p4), .val (.int k0), .val (.int k1), .val (.int k2), .val (.ref b101), .val (.ref b115), .val (.ref b117), .val (.int (own_rch (own_value k0 q1))), .unset, .unset] [(.int 1), (.ref b117)])) rfl (by rw [hml]; rfl) (Steps.refl _) (argsL := [(.int 1)]) (rest := []) (lenOf pd2 rfl) rfl (by show 2 * 0 + _ ≤ _; exact Nat.le_of_eq rfl) (hb hby at_87) (fun _ _ => ⟨rfl, P122_0, (by decide : 3 + 0 ≤ _), (by decide : 10 + 0 ≤ _)⟩)
  dsimp only [Pt.U, Pt.locs, Pt.cells, Pt.slots] at X123 l123 y123 z123 st123 hQ123
  subst l123 y123 z123
  obtain ⟨rfl, Nq123, P123_0⟩ := hQ123
  have N123 := Fr.app N122 Nq123
  obtain ⟨cq124, kq124, q124a, q124b, q124c⟩ := isOf hZ P123_0 P119_1
  obtain ⟨_, _, ⟨T124, L124, k124, n124⟩, -, X124, ⟨Lc124, hQ124, l124, y124, z124⟩, st124⟩ := X123.virtualBack hx (y := (⟨"com/example/fireweed/fireweed/service/ShortestPaths", "reaches", "(I)Z"⟩ : MethodName)) (z := (⟨"com/example/fireweed/fireweed/service/ShortestPaths", "reaches", "(I)Z"⟩ : MethodName)) hown (mvT hZ (own_w hw 24 rfl)) (mvT hZ (own_w hw 25 rfl)) (notFace_of_selects (args := #[]) (mvT hZ (own_w hw 27 rfl))) (mvT hZ (own_w hw 27 rfl)) (mvT hZ (own_w hw 26 rfl)) (by decide) (backOf (W := 0) (rm4_2 l Z a0 hw [] b117 b101 k101 (own_value k0 q1) (own_value k1 q2) (own_value k2 q3) T119.heap n0 ZZ120 P119_4 Fc121) hZ (own_w hw 28 rfl) (own_w hw 9 rfl) (by decide) (by decide)) q124a q124c (g := (mkF m 95 #[.val (.int p0), .val (.long q1), .second, .val (.long q2), .second, .val (.long q3), .second, .val (.int p4), .val (.int k0), .val (.int k1), .val (.int k2), .val (.ref b101), .val (.ref b115), .val (.ref b117), .val (.int (own_rch (own_value k0 q1))), .val (.int (own_rch (own_value k1 q2))), .unset] [(.int 2), (.ref b117)])) rfl (by rw [hml]; rfl) (Steps.refl _) (argsL := [(.int 2)]) (rest := []) (lenOf pd2 rfl) rfl (by show 2 * 0 + _ ≤ _; exact Nat.le_of_eq rfl) (hb hby at_95) (fun _ _ => ⟨rfl, P123_0, (by decide : 3 + 0 ≤ _), (by decide : 10 + 0 ≤ _)⟩)
  dsimp only [Pt.U, Pt.locs, Pt.cells, Pt.slots] at X124 l124 y124 z124 st124 hQ124
  subst l124 y124 z124
  obtain ⟨rfl, Nq124, P124_0⟩ := hQ124
  have N124 := Fr.app N123 Nq124
  have pre125 : ∀ t, Steps p.tables e below (T124.setTop (mkF m 105 #[.val (.int p0), .val (.long q1), .second, .val (.long q2), .second, .val (.long q3), .second, .val (.int p4), .val (.int k0), .val (.int k1), .val (.int k2), .val (.ref b101), .val (.ref b115), .val (.ref b117), .val (.int (own_rch (own_value k0 q1))), .val (.int (own_rch (own_value k1 q2))), .val (.int (own_rch (own_value k2 q3)))] [(.int 3), (.int k0), (.int (own_rch (own_value k0 q1)))])) t → Steps p.tables e below (s₁.setTop (mkF m 0 #[.val (.int p0), .val (.long q1), .second, .val (.long q2), .second, .val (.long q3), .second, .val (.int p4), .unset, .unset, .unset, .unset, .unset, .unset, .unset, .unset, .unset] [])) t := by
    intro t kt
    show own_S p e below s₁ m 0 #[.val (.int p0), .val (.long q1), .second, .val (.long q2), .second, .val (.long q3), .second, .val (.int p4), .unset, .unset, .unset, .unset, .unset, .unset, .unset, .unset, .unset] [] _
    refine XS.iloadN X0.here hx rfl (hb hby at_0) rfl ?_
    show own_S p e below s₁ m 1 #[.val (.int p0), .val (.long q1), .second, .val (.long q2), .second, .val (.long q3), .second, .val (.int p4), .unset, .unset, .unset, .unset, .unset, .unset, .unset, .unset, .unset] [(.int p0)] _
    refine XS.iconst X0.here hx rfl (hb hby at_1) ?_
    show own_S p e below s₁ m 2 #[.val (.int p0), .val (.long q1), .second, .val (.long q2), .second, .val (.long q3), .second, .val (.int p4), .unset, .unset, .unset, .unset, .unset, .unset, .unset, .unset, .unset] [(.int 3), (.int p0)] _
    refine XS.iand X0.here hx rfl (hb hby at_2) rfl ?_
    show own_S p e below s₁ m 3 #[.val (.int p0), .val (.long q1), .second, .val (.long q2), .second, .val (.long q3), .second, .val (.int p4), .unset, .unset, .unset, .unset, .unset, .unset, .unset, .unset, .unset] [(.int (p0 &&& (3 : Int32)))] _
    refine reI (hk0.symm : (p0 &&& (3 : Int32)) = k0) ?_
    show own_S p e below s₁ m 3 #[.val (.int p0), .val (.long q1), .second, .val (.long q2), .second, .val (.long q3), .second, .val (.int p4), .unset, .unset, .unset, .unset, .unset, .unset, .unset, .unset, .unset] [(.int k0)] _
    refine XS.istore X0.here hx rfl (hb hby at_3) rfl (l' := #[.val (.int p0), .val (.long q1), .second, .val (.long q2), .second, .val (.long q3), .second, .val (.int p4), .val (.int k0), .unset, .unset, .unset, .unset, .unset, .unset, .unset, .unset]) rfl ?_
    show own_S p e below s₁ m 5 #[.val (.int p0), .val (.long q1), .second, .val (.long q2), .second, .val (.long q3), .second, .val (.int p4), .val (.int k0), .unset, .unset, .unset, .unset, .unset, .unset, .unset, .unset] [] _
    refine XS.iloadN X0.here hx rfl (hb hby at_5) rfl ?_
    show own_S p e below s₁ m 6 #[.val (.int p0), .val (.long q1), .second, .val (.long q2), .second, .val (.long q3), .second, .val (.int p4), .val (.int k0), .unset, .unset, .unset, .unset, .unset, .unset, .unset, .unset] [(.int p0)] _
    refine XS.iconst X0.here hx rfl (hb hby at_6) ?_
    show own_S p e below s₁ m 7 #[.val (.int p0), .val (.long q1), .second, .val (.long q2), .second, .val (.long q3), .second, .val (.int p4), .val (.int k0), .unset, .unset, .unset, .unset, .unset, .unset, .unset, .unset] [(.int 2), (.int p0)] _
    refine XS.iushr X0.here hx rfl (hb hby at_7) rfl ?_
    show own_S p e below s₁ m 8 #[.val (.int p0), .val (.long q1), .second, .val (.long q2), .second, .val (.long q3), .second, .val (.int p4), .val (.int k0), .unset, .unset, .unset, .unset, .unset, .unset, .unset, .unset] [(.int ((p0.toUInt32 >>> ((2 : Int32) &&& 31).toUInt32).toInt32))] _
    refine XS.iconst X0.here hx rfl (hb hby at_8) ?_
    show own_S p e below s₁ m 9 #[.val (.int p0), .val (.long q1), .second, .val (.long q2), .second, .val (.long q3), .second, .val (.int p4), .val (.int k0), .unset, .unset, .unset, .unset, .unset, .unset, .unset, .unset] [(.int 3), (.int ((p0.toUInt32 >>> ((2 : Int32) &&& 31).toUInt32).toInt32))] _
    refine XS.iand X0.here hx rfl (hb hby at_9) rfl ?_
    show own_S p e below s₁ m 10 #[.val (.int p0), .val (.long q1), .second, .val (.long q2), .second, .val (.long q3), .second, .val (.int p4), .val (.int k0), .unset, .unset, .unset, .unset, .unset, .unset, .unset, .unset] [(.int (((p0.toUInt32 >>> ((2 : Int32) &&& 31).toUInt32).toInt32) &&& (3 : Int32)))] _
    refine reI (hk1.symm : (((p0.toUInt32 >>> ((2 : Int32) &&& 31).toUInt32).toInt32) &&& (3 : Int32)) = k1) ?_
    show own_S p e below s₁ m 10 #[.val (.int p0), .val (.long q1), .second, .val (.long q2), .second, .val (.long q3), .second, .val (.int p4), .val (.int k0), .unset, .unset, .unset, .unset, .unset, .unset, .unset, .unset] [(.int k1)] _
    refine XS.istore X0.here hx rfl (hb hby at_10) rfl (l' := #[.val (.int p0), .val (.long q1), .second, .val (.long q2), .second, .val (.long q3), .second, .val (.int p4), .val (.int k0), .val (.int k1), .unset, .unset, .unset, .unset, .unset, .unset, .unset]) rfl ?_
    show own_S p e below s₁ m 12 #[.val (.int p0), .val (.long q1), .second, .val (.long q2), .second, .val (.long q3), .second, .val (.int p4), .val (.int k0), .val (.int k1), .unset, .unset, .unset, .unset, .unset, .unset, .unset] [] _
    refine XS.iloadN X0.here hx rfl (hb hby at_12) rfl ?_
    show own_S p e below s₁ m 13 #[.val (.int p0), .val (.long q1), .second, .val (.long q2), .second, .val (.long q3), .second, .val (.int p4), .val (.int k0), .val (.int k1), .unset, .unset, .unset, .unset, .unset, .unset, .unset] [(.int p0)] _
    refine XS.iconst X0.here hx rfl (hb hby at_13) ?_
    show own_S p e below s₁ m 14 #[.val (.int p0), .val (.long q1), .second, .val (.long q2), .second, .val (.long q3), .second, .val (.int p4), .val (.int k0), .val (.int k1), .unset, .unset, .unset, .unset, .unset, .unset, .unset] [(.int 4), (.int p0)] _
    refine XS.iushr X0.here hx rfl (hb hby at_14) rfl ?_
    show own_S p e below s₁ m 15 #[.val (.int p0), .val (.long q1), .second, .val (.long q2), .second, .val (.long q3), .second, .val (.int p4), .val (.int k0), .val (.int k1), .unset, .unset, .unset, .unset, .unset, .unset, .unset] [(.int ((p0.toUInt32 >>> ((4 : Int32) &&& 31).toUInt32).toInt32))] _
    refine XS.iconst X0.here hx rfl (hb hby at_15) ?_
    show own_S p e below s₁ m 16 #[.val (.int p0), .val (.long q1), .second, .val (.long q2), .second, .val (.long q3), .second, .val (.int p4), .val (.int k0), .val (.int k1), .unset, .unset, .unset, .unset, .unset, .unset, .unset] [(.int 3), (.int ((p0.toUInt32 >>> ((4 : Int32) &&& 31).toUInt32).toInt32))] _
    refine XS.iand X0.here hx rfl (hb hby at_16) rfl ?_
    show own_S p e below s₁ m 17 #[.val (.int p0), .val (.long q1), .second, .val (.long q2), .second, .val (.long q3), .second, .val (.int p4), .val (.int k0), .val (.int k1), .unset, .unset, .unset, .unset, .unset, .unset, .unset] [(.int (((p0.toUInt32 >>> ((4 : Int32) &&& 31).toUInt32).toInt32) &&& (3 : Int32)))] _
    refine reI (hk2.symm : (((p0.toUInt32 >>> ((4 : Int32) &&& 31).toUInt32).toInt32) &&& (3 : Int32)) = k2) ?_
    show own_S p e below s₁ m 17 #[.val (.int p0), .val (.long q1), .second, .val (.long q2), .second, .val (.long q3), .second, .val (.int p4), .val (.int k0), .val (.int k1), .unset, .unset, .unset, .unset, .unset, .unset, .unset] [(.int k2)] _
    refine XS.istore X0.here hx rfl (hb hby at_17) rfl (l' := #[.val (.int p0), .val (.long q1), .second, .val (.long q2), .second, .val (.long q3), .second, .val (.int p4), .val (.int k0), .val (.int k1), .val (.int k2), .unset, .unset, .unset, .unset, .unset, .unset]) rfl ?_
    show own_S p e below s₁ m 19 #[.val (.int p0), .val (.long q1), .second, .val (.long q2), .second, .val (.long q3), .second, .val (.int p4), .val (.int k0), .val (.int k1), .val (.int k2), .unset, .unset, .unset, .unset, .unset, .unset] [] _
    refine XS.iconst X0.here hx rfl (hb hby at_19) ?_
    show own_S p e below s₁ m 20 #[.val (.int p0), .val (.long q1), .second, .val (.long q2), .second, .val (.long q3), .second, .val (.int p4), .val (.int k0), .val (.int k1), .val (.int k2), .unset, .unset, .unset, .unset, .unset, .unset] [(.int 3)] _
    refine st101 _ ?_
    show own_S p e below T101 m 22 #[.val (.int p0), .val (.long q1), .second, .val (.long q2), .second, .val (.long q3), .second, .val (.int p4), .val (.int k0), .val (.int k1), .val (.int k2), .unset, .unset, .unset, .unset, .unset, .unset] [(.ref b101)] _
    refine XS.astore X101.here hx rfl (hb hby at_22) rfl rfl (l' := #[.val (.int p0), .val (.long q1), .second, .val (.long q2), .second, .val (.long q3), .second, .val (.int p4), .val (.int k0), .val (.int k1), .val (.int k2), .val (.ref b101), .unset, .unset, .unset, .unset, .unset]) rfl ?_
    show own_S p e below T101 m 24 #[.val (.int p0), .val (.long q1), .second, .val (.long q2), .second, .val (.long q3), .second, .val (.int p4), .val (.int k0), .val (.int k1), .val (.int k2), .val (.ref b101), .unset, .unset, .unset, .unset, .unset] [] _
    refine XS.aload X101.here hx rfl (hb hby at_24) rfl rfl ?_
    show own_S p e below T101 m 26 #[.val (.int p0), .val (.long q1), .second, .val (.long q2), .second, .val (.long q3), .second, .val (.int p4), .val (.int k0), .val (.int k1), .val (.int k2), .val (.ref b101), .unset, .unset, .unset, .unset, .unset] [(.ref b101)] _
    refine XS.iconst X101.here hx rfl (hb hby at_26) ?_
    show own_S p e below T101 m 27 #[.val (.int p0), .val (.long q1), .second, .val (.long q2), .second, .val (.long q3), .second, .val (.int p4), .val (.int k0), .val (.int k1), .val (.int k2), .val (.ref b101), .unset, .unset, .unset, .unset, .unset] [(.int 0), (.ref b101)] _
    refine XS.iload X101.here hx rfl (hb hby at_27) rfl ?_
    show own_S p e below T101 m 29 #[.val (.int p0), .val (.long q1), .second, .val (.long q2), .second, .val (.long q3), .second, .val (.int p4), .val (.int k0), .val (.int k1), .val (.int k2), .val (.ref b101), .unset, .unset, .unset, .unset, .unset] [(.int k0), (.int 0), (.ref b101)] _
    refine XS.lloadN X101.here hx rfl (hb hby at_29) rfl ?_
    show own_S p e below T101 m 30 #[.val (.int p0), .val (.long q1), .second, .val (.long q2), .second, .val (.long q3), .second, .val (.int p4), .val (.int k0), .val (.int k1), .val (.int k2), .val (.ref b101), .unset, .unset, .unset, .unset, .unset] [(.long q1), (.int k0), (.int 0), (.ref b101)] _
    refine st103 _ ?_
    show own_S p e below T103 m 33 #[.val (.int p0), .val (.long q1), .second, .val (.long q2), .second, .val (.long q3), .second, .val (.int p4), .val (.int k0), .val (.int k1), .val (.int k2), .val (.ref b101), .unset, .unset, .unset, .unset, .unset] [(.double (own_value k0 q1)), (.int 0), (.ref b101)] _
    refine st105 _ ?_
    show own_S p e below T105 m 34 #[.val (.int p0), .val (.long q1), .second, .val (.long q2), .second, .val (.long q3), .second, .val (.int p4), .val (.int k0), .val (.int k1), .val (.int k2), .val (.ref b101), .unset, .unset, .unset, .unset, .unset] [] _
    refine XS.aload X105.here hx rfl (hb hby at_34) rfl rfl ?_
    show own_S p e below T105 m 36 #[.val (.int p0), .val (.long q1), .second, .val (.long q2), .second, .val (.long q3), .second, .val (.int p4), .val (.int k0), .val (.int k1), .val (.int k2), .val (.ref b101), .unset, .unset, .unset, .unset, .unset] [(.ref b101)] _
    refine XS.iconst X105.here hx rfl (hb hby at_36) ?_
    show own_S p e below T105 m 37 #[.val (.int p0), .val (.long q1), .second, .val (.long q2), .second, .val (.long q3), .second, .val (.int p4), .val (.int k0), .val (.int k1), .val (.int k2), .val (.ref b101), .unset, .unset, .unset, .unset, .unset] [(.int 1), (.ref b101)] _
    refine XS.iload X105.here hx rfl (hb hby at_37) rfl ?_
    show own_S p e below T105 m 39 #[.val (.int p0), .val (.long q1), .second, .val (.long q2), .second, .val (.long q3), .second, .val (.int p4), .val (.int k0), .val (.int k1), .val (.int k2), .val (.ref b101), .unset, .unset, .unset, .unset, .unset] [(.int k1), (.int 1), (.ref b101)] _
    refine XS.lloadN X105.here hx rfl (hb hby at_39) rfl ?_
    show own_S p e below T105 m 40 #[.val (.int p0), .val (.long q1), .second, .val (.long q2), .second, .val (.long q3), .second, .val (.int p4), .val (.int k0), .val (.int k1), .val (.int k2), .val (.ref b101), .unset, .unset, .unset, .unset, .unset] [(.long q2), (.int k1), (.int 1), (.ref b101)] _
    refine st107 _ ?_
    show own_S p e below T107 m 43 #[.val (.int p0), .val (.long q1), .second, .val (.long q2), .second, .val (.long q3), .second, .val (.int p4), .val (.int k0), .val (.int k1), .val (.int k2), .val (.ref b101), .unset, .unset, .unset, .unset, .unset] [(.double (own_value k1 q2)), (.int 1), (.ref b101)] _
    refine st109 _ ?_
    show own_S p e below T109 m 44 #[.val (.int p0), .val (.long q1), .second, .val (.long q2), .second, .val (.long q3), .second, .val (.int p4), .val (.int k0), .val (.int k1), .val (.int k2), .val (.ref b101), .unset, .unset, .unset, .unset, .unset] [] _
    refine XS.aload X109.here hx rfl (hb hby at_44) rfl rfl ?_
    show own_S p e below T109 m 46 #[.val (.int p0), .val (.long q1), .second, .val (.long q2), .second, .val (.long q3), .second, .val (.int p4), .val (.int k0), .val (.int k1), .val (.int k2), .val (.ref b101), .unset, .unset, .unset, .unset, .unset] [(.ref b101)] _
    refine XS.iconst X109.here hx rfl (hb hby at_46) ?_
    show own_S p e below T109 m 47 #[.val (.int p0), .val (.long q1), .second, .val (.long q2), .second, .val (.long q3), .second, .val (.int p4), .val (.int k0), .val (.int k1), .val (.int k2), .val (.ref b101), .unset, .unset, .unset, .unset, .unset] [(.int 2), (.ref b101)] _
    refine XS.iload X109.here hx rfl (hb hby at_47) rfl ?_
    show own_S p e below T109 m 49 #[.val (.int p0), .val (.long q1), .second, .val (.long q2), .second, .val (.long q3), .second, .val (.int p4), .val (.int k0), .val (.int k1), .val (.int k2), .val (.ref b101), .unset, .unset, .unset, .unset, .unset] [(.int k2), (.int 2), (.ref b101)] _
    refine XS.lload X109.here hx rfl (hb hby at_49) rfl ?_
    show own_S p e below T109 m 51 #[.val (.int p0), .val (.long q1), .second, .val (.long q2), .second, .val (.long q3), .second, .val (.int p4), .val (.int k0), .val (.int k1), .val (.int k2), .val (.ref b101), .unset, .unset, .unset, .unset, .unset] [(.long q3), (.int k2), (.int 2), (.ref b101)] _
    refine st111 _ ?_
    show own_S p e below T111 m 54 #[.val (.int p0), .val (.long q1), .second, .val (.long q2), .second, .val (.long q3), .second, .val (.int p4), .val (.int k0), .val (.int k1), .val (.int k2), .val (.ref b101), .unset, .unset, .unset, .unset, .unset] [(.double (own_value k2 q3)), (.int 2), (.ref b101)] _
    refine st113 _ ?_
    show own_S p e below T113 m 55 #[.val (.int p0), .val (.long q1), .second, .val (.long q2), .second, .val (.long q3), .second, .val (.int p4), .val (.int k0), .val (.int k1), .val (.int k2), .val (.ref b101), .unset, .unset, .unset, .unset, .unset] [] _
    refine XS.iconst X113.here hx rfl (hb hby at_55) ?_
    show own_S p e below T113 m 56 #[.val (.int p0), .val (.long q1), .second, .val (.long q2), .second, .val (.long q3), .second, .val (.int p4), .val (.int k0), .val (.int k1), .val (.int k2), .val (.ref b101), .unset, .unset, .unset, .unset, .unset] [(.int 3)] _
    refine st115 _ ?_
    show own_S p e below T115 m 58 #[.val (.int p0), .val (.long q1), .second, .val (.long q2), .second, .val (.long q3), .second, .val (.int p4), .val (.int k0), .val (.int k1), .val (.int k2), .val (.ref b101), .unset, .unset, .unset, .unset, .unset] [(.ref b115)] _
    refine XS.astore X115.here hx rfl (hb hby at_58) rfl rfl (l' := #[.val (.int p0), .val (.long q1), .second, .val (.long q2), .second, .val (.long q3), .second, .val (.int p4), .val (.int k0), .val (.int k1), .val (.int k2), .val (.ref b101), .val (.ref b115), .unset, .unset, .unset, .unset]) rfl ?_
    show own_S p e below T115 m 60 #[.val (.int p0), .val (.long q1), .second, .val (.long q2), .second, .val (.long q3), .second, .val (.int p4), .val (.int k0), .val (.int k1), .val (.int k2), .val (.ref b101), .val (.ref b115), .unset, .unset, .unset, .unset] [] _
    refine st117 _ ?_
    show own_S p e below T117 m 63 #[.val (.int p0), .val (.long q1), .second, .val (.long q2), .second, .val (.long q3), .second, .val (.int p4), .val (.int k0), .val (.int k1), .val (.int k2), .val (.ref b101), .val (.ref b115), .unset, .unset, .unset, .unset] [(.ref b117)] _
    refine XS.dup X117.here hx rfl (hb hby at_63) rfl rfl ?_
    show own_S p e below T117 m 64 #[.val (.int p0), .val (.long q1), .second, .val (.long q2), .second, .val (.long q3), .second, .val (.int p4), .val (.int k0), .val (.int k1), .val (.int k2), .val (.ref b101), .val (.ref b115), .unset, .unset, .unset, .unset] [(.ref b117), (.ref b117)] _
    refine XS.aconstNull X117.here hx rfl (hb hby at_64) ?_
    show own_S p e below T117 m 65 #[.val (.int p0), .val (.long q1), .second, .val (.long q2), .second, .val (.long q3), .second, .val (.int p4), .val (.int k0), .val (.int k1), .val (.int k2), .val (.ref b101), .val (.ref b115), .unset, .unset, .unset, .unset] [.null, (.ref b117), (.ref b117)] _
    refine XS.iload X117.here hx rfl (hb hby at_65) rfl ?_
    show own_S p e below T117 m 67 #[.val (.int p0), .val (.long q1), .second, .val (.long q2), .second, .val (.long q3), .second, .val (.int p4), .val (.int k0), .val (.int k1), .val (.int k2), .val (.ref b101), .val (.ref b115), .unset, .unset, .unset, .unset] [(.int p4), .null, (.ref b117), (.ref b117)] _
    refine XS.aload X117.here hx rfl (hb hby at_67) rfl rfl ?_
    show own_S p e below T117 m 69 #[.val (.int p0), .val (.long q1), .second, .val (.long q2), .second, .val (.long q3), .second, .val (.int p4), .val (.int k0), .val (.int k1), .val (.int k2), .val (.ref b101), .val (.ref b115), .unset, .unset, .unset, .unset] [(.ref b101), (.int p4), .null, (.ref b117), (.ref b117)] _
    refine XS.aload X117.here hx rfl (hb hby at_69) rfl rfl ?_
    show own_S p e below T117 m 71 #[.val (.int p0), .val (.long q1), .second, .val (.long q2), .second, .val (.long q3), .second, .val (.int p4), .val (.int k0), .val (.int k1), .val (.int k2), .val (.ref b101), .val (.ref b115), .unset, .unset, .unset, .unset] [(.ref b115), (.ref b101), (.int p4), .null, (.ref b117), (.ref b117)] _
    refine st119.trans ?_
    show own_S p e below T119 m 74 #[.val (.int p0), .val (.long q1), .second, .val (.long q2), .second, .val (.long q3), .second, .val (.int p4), .val (.int k0), .val (.int k1), .val (.int k2), .val (.ref b101), .val (.ref b115), .unset, .unset, .unset, .unset] [(.ref b117)] _
    refine XS.astore X119.here hx rfl (hb hby at_74) rfl rfl (l' := #[.val (.int p0), .val (.long q1), .second, .val (.long q2), .second, .val (.long q3), .second, .val (.int p4), .val (.int k0), .val (.int k1), .val (.int k2), .val (.ref b101), .val (.ref b115), .val (.ref b117), .unset, .unset, .unset]) rfl ?_
    show own_S p e below T119 m 76 #[.val (.int p0), .val (.long q1), .second, .val (.long q2), .second, .val (.long q3), .second, .val (.int p4), .val (.int k0), .val (.int k1), .val (.int k2), .val (.ref b101), .val (.ref b115), .val (.ref b117), .unset, .unset, .unset] [] _
    refine XS.aload X119.here hx rfl (hb hby at_76) rfl rfl ?_
    show own_S p e below T119 m 78 #[.val (.int p0), .val (.long q1), .second, .val (.long q2), .second, .val (.long q3), .second, .val (.int p4), .val (.int k0), .val (.int k1), .val (.int k2), .val (.ref b101), .val (.ref b115), .val (.ref b117), .unset, .unset, .unset] [(.ref b117)] _
    refine XS.iconst X119.here hx rfl (hb hby at_78) ?_
    show own_S p e below T119 m 79 #[.val (.int p0), .val (.long q1), .second, .val (.long q2), .second, .val (.long q3), .second, .val (.int p4), .val (.int k0), .val (.int k1), .val (.int k2), .val (.ref b101), .val (.ref b115), .val (.ref b117), .unset, .unset, .unset] [(.int 0), (.ref b117)] _
    refine st122.trans ?_
    show own_S p e below T122 m 82 #[.val (.int p0), .val (.long q1), .second, .val (.long q2), .second, .val (.long q3), .second, .val (.int p4), .val (.int k0), .val (.int k1), .val (.int k2), .val (.ref b101), .val (.ref b115), .val (.ref b117), .unset, .unset, .unset] [(.int (own_rch (own_value k0 q1)))] _
    refine XS.istore X122.here hx rfl (hb hby at_82) rfl (l' := #[.val (.int p0), .val (.long q1), .second, .val (.long q2), .second, .val (.long q3), .second, .val (.int p4), .val (.int k0), .val (.int k1), .val (.int k2), .val (.ref b101), .val (.ref b115), .val (.ref b117), .val (.int (own_rch (own_value k0 q1))), .unset, .unset]) rfl ?_
    show own_S p e below T122 m 84 #[.val (.int p0), .val (.long q1), .second, .val (.long q2), .second, .val (.long q3), .second, .val (.int p4), .val (.int k0), .val (.int k1), .val (.int k2), .val (.ref b101), .val (.ref b115), .val (.ref b117), .val (.int (own_rch (own_value k0 q1))), .unset, .unset] [] _
    refine XS.aload X122.here hx rfl (hb hby at_84) rfl rfl ?_
    show own_S p e below T122 m 86 #[.val (.int p0), .val (.long q1), .second, .val (.long q2), .second, .val (.long q3), .second, .val (.int p4), .val (.int k0), .val (.int k1), .val (.int k2), .val (.ref b101), .val (.ref b115), .val (.ref b117), .val (.int (own_rch (own_value k0 q1))), .unset, .unset] [(.ref b117)] _
    refine XS.iconst X122.here hx rfl (hb hby at_86) ?_
    show own_S p e below T122 m 87 #[.val (.int p0), .val (.long q1), .second, .val (.long q2), .second, .val (.long q3), .second, .val (.int p4), .val (.int k0), .val (.int k1), .val (.int k2), .val (.ref b101), .val (.ref b115), .val (.ref b117), .val (.int (own_rch (own_value k0 q1))), .unset, .unset] [(.int 1), (.ref b117)] _
    refine st123.trans ?_
    show own_S p e below T123 m 90 #[.val (.int p0), .val (.long q1), .second, .val (.long q2), .second, .val (.long q3), .second, .val (.int p4), .val (.int k0), .val (.int k1), .val (.int k2), .val (.ref b101), .val (.ref b115), .val (.ref b117), .val (.int (own_rch (own_value k0 q1))), .unset, .unset] [(.int (own_rch (own_value k1 q2)))] _
    refine XS.istore X123.here hx rfl (hb hby at_90) rfl (l' := #[.val (.int p0), .val (.long q1), .second, .val (.long q2), .second, .val (.long q3), .second, .val (.int p4), .val (.int k0), .val (.int k1), .val (.int k2), .val (.ref b101), .val (.ref b115), .val (.ref b117), .val (.int (own_rch (own_value k0 q1))), .val (.int (own_rch (own_value k1 q2))), .unset]) rfl ?_
    show own_S p e below T123 m 92 #[.val (.int p0), .val (.long q1), .second, .val (.long q2), .second, .val (.long q3), .second, .val (.int p4), .val (.int k0), .val (.int k1), .val (.int k2), .val (.ref b101), .val (.ref b115), .val (.ref b117), .val (.int (own_rch (own_value k0 q1))), .val (.int (own_rch (own_value k1 q2))), .unset] [] _
    refine XS.aload X123.here hx rfl (hb hby at_92) rfl rfl ?_
    show own_S p e below T123 m 94 #[.val (.int p0), .val (.long q1), .second, .val (.long q2), .second, .val (.long q3), .second, .val (.int p4), .val (.int k0), .val (.int k1), .val (.int k2), .val (.ref b101), .val (.ref b115), .val (.ref b117), .val (.int (own_rch (own_value k0 q1))), .val (.int (own_rch (own_value k1 q2))), .unset] [(.ref b117)] _
    refine XS.iconst X123.here hx rfl (hb hby at_94) ?_
    show own_S p e below T123 m 95 #[.val (.int p0), .val (.long q1), .second, .val (.long q2), .second, .val (.long q3), .second, .val (.int p4), .val (.int k0), .val (.int k1), .val (.int k2), .val (.ref b101), .val (.ref b115), .val (.ref b117), .val (.int (own_rch (own_value k0 q1))), .val (.int (own_rch (own_value k1 q2))), .unset] [(.int 2), (.ref b117)] _
    refine st124.trans ?_
    show own_S p e below T124 m 98 #[.val (.int p0), .val (.long q1), .second, .val (.long q2), .second, .val (.long q3), .second, .val (.int p4), .val (.int k0), .val (.int k1), .val (.int k2), .val (.ref b101), .val (.ref b115), .val (.ref b117), .val (.int (own_rch (own_value k0 q1))), .val (.int (own_rch (own_value k1 q2))), .unset] [(.int (own_rch (own_value k2 q3)))] _
    refine XS.istore X124.here hx rfl (hb hby at_98) rfl (l' := #[.val (.int p0), .val (.long q1), .second, .val (.long q2), .second, .val (.long q3), .second, .val (.int p4), .val (.int k0), .val (.int k1), .val (.int k2), .val (.ref b101), .val (.ref b115), .val (.ref b117), .val (.int (own_rch (own_value k0 q1))), .val (.int (own_rch (own_value k1 q2))), .val (.int (own_rch (own_value k2 q3)))]) rfl ?_
    show own_S p e below T124 m 100 #[.val (.int p0), .val (.long q1), .second, .val (.long q2), .second, .val (.long q3), .second, .val (.int p4), .val (.int k0), .val (.int k1), .val (.int k2), .val (.ref b101), .val (.ref b115), .val (.ref b117), .val (.int (own_rch (own_value k0 q1))), .val (.int (own_rch (own_value k1 q2))), .val (.int (own_rch (own_value k2 q3)))] [] _
    refine XS.iload X124.here hx rfl (hb hby at_100) rfl ?_
    show own_S p e below T124 m 102 #[.val (.int p0), .val (.long q1), .second, .val (.long q2), .second, .val (.long q3), .second, .val (.int p4), .val (.int k0), .val (.int k1), .val (.int k2), .val (.ref b101), .val (.ref b115), .val (.ref b117), .val (.int (own_rch (own_value k0 q1))), .val (.int (own_rch (own_value k1 q2))), .val (.int (own_rch (own_value k2 q3)))] [(.int (own_rch (own_value k0 q1)))] _
    refine XS.iload X124.here hx rfl (hb hby at_102) rfl ?_
    show own_S p e below T124 m 104 #[.val (.int p0), .val (.long q1), .second, .val (.long q2), .second, .val (.long q3), .second, .val (.int p4), .val (.int k0), .val (.int k1), .val (.int k2), .val (.ref b101), .val (.ref b115), .val (.ref b117), .val (.int (own_rch (own_value k0 q1))), .val (.int (own_rch (own_value k1 q2))), .val (.int (own_rch (own_value k2 q3)))] [(.int k0), (.int (own_rch (own_value k0 q1)))] _
    refine XS.iconst X124.here hx rfl (hb hby at_104) ?_
    exact kt
  by_cases hk3_0 : k0 = (3 : Int32)
  · skip
    have pre126 : ∀ t, Steps p.tables e below (T124.setTop (mkF m 121 #[.val (.int p0), .val (.long q1), .second, .val (.long q2), .second, .val (.long q3), .second, .val (.int p4), .val (.int k0), .val (.int k1), .val (.int k2), .val (.ref b101), .val (.ref b115), .val (.ref b117), .val (.int (own_rch (own_value k0 q1))), .val (.int (own_rch (own_value k1 q2))), .val (.int (own_rch (own_value k2 q3)))] [(.int 3), (.int k1), (.int (own_rch (own_value k1 q2)))])) t → Steps p.tables e below (s₁.setTop (mkF m 0 #[.val (.int p0), .val (.long q1), .second, .val (.long q2), .second, .val (.long q3), .second, .val (.int p4), .unset, .unset, .unset, .unset, .unset, .unset, .unset, .unset, .unset] [])) t := by
      intro t kt
      refine pre125 _ ?_
      show own_S p e below T124 m 105 #[.val (.int p0), .val (.long q1), .second, .val (.long q2), .second, .val (.long q3), .second, .val (.int p4), .val (.int k0), .val (.int k1), .val (.int k2), .val (.ref b101), .val (.ref b115), .val (.ref b117), .val (.int (own_rch (own_value k0 q1))), .val (.int (own_rch (own_value k1 q2))), .val (.int (own_rch (own_value k2 q3)))] [(.int 3), (.int k0), (.int (own_rch (own_value k0 q1)))] _
      refine XS.icmpYes X124.here hx rfl (pc0 := 105) (pc' := 112) rfl (hb hby at_105) rfl (teq (hk3_0 : k0 = (3 : Int32))).1 (by decide) (by decide) ?_
      show own_S p e below T124 m 112 #[.val (.int p0), .val (.long q1), .second, .val (.long q2), .second, .val (.long q3), .second, .val (.int p4), .val (.int k0), .val (.int k1), .val (.int k2), .val (.ref b101), .val (.ref b115), .val (.ref b117), .val (.int (own_rch (own_value k0 q1))), .val (.int (own_rch (own_value k1 q2))), .val (.int (own_rch (own_value k2 q3)))] [(.int (own_rch (own_value k0 q1)))] _
      refine XS.iconst X124.here hx rfl (hb hby at_112) ?_
      show own_S p e below T124 m 113 #[.val (.int p0), .val (.long q1), .second, .val (.long q2), .second, .val (.long q3), .second, .val (.int p4), .val (.int k0), .val (.int k1), .val (.int k2), .val (.ref b101), .val (.ref b115), .val (.ref b117), .val (.int (own_rch (own_value k0 q1))), .val (.int (own_rch (own_value k1 q2))), .val (.int (own_rch (own_value k2 q3)))] [(.int 0), (.int (own_rch (own_value k0 q1)))] _
      refine re2I (own_r0 q1 hk3_0 : (own_rch (own_value k0 q1)) = (0 : Int32)) ?_
      show own_S p e below T124 m 113 #[.val (.int p0), .val (.long q1), .second, .val (.long q2), .second, .val (.long q3), .second, .val (.int p4), .val (.int k0), .val (.int k1), .val (.int k2), .val (.ref b101), .val (.ref b115), .val (.ref b117), .val (.int (own_rch (own_value k0 q1))), .val (.int (own_rch (own_value k1 q2))), .val (.int (own_rch (own_value k2 q3)))] [(.int 0), (.int 0)] _
      refine XS.icmpNo X124.here hx rfl (hb hby at_113) rfl (teq (by decide : (0 : Int32) = (0 : Int32))).2 ?_
      show own_S p e below T124 m 116 #[.val (.int p0), .val (.long q1), .second, .val (.long q2), .second, .val (.long q3), .second, .val (.int p4), .val (.int k0), .val (.int k1), .val (.int k2), .val (.ref b101), .val (.ref b115), .val (.ref b117), .val (.int (own_rch (own_value k0 q1))), .val (.int (own_rch (own_value k1 q2))), .val (.int (own_rch (own_value k2 q3)))] [] _
      refine XS.iload X124.here hx rfl (hb hby at_116) rfl ?_
      show own_S p e below T124 m 118 #[.val (.int p0), .val (.long q1), .second, .val (.long q2), .second, .val (.long q3), .second, .val (.int p4), .val (.int k0), .val (.int k1), .val (.int k2), .val (.ref b101), .val (.ref b115), .val (.ref b117), .val (.int (own_rch (own_value k0 q1))), .val (.int (own_rch (own_value k1 q2))), .val (.int (own_rch (own_value k2 q3)))] [(.int (own_rch (own_value k1 q2)))] _
      refine XS.iload X124.here hx rfl (hb hby at_118) rfl ?_
      show own_S p e below T124 m 120 #[.val (.int p0), .val (.long q1), .second, .val (.long q2), .second, .val (.long q3), .second, .val (.int p4), .val (.int k0), .val (.int k1), .val (.int k2), .val (.ref b101), .val (.ref b115), .val (.ref b117), .val (.int (own_rch (own_value k0 q1))), .val (.int (own_rch (own_value k1 q2))), .val (.int (own_rch (own_value k2 q3)))] [(.int k1), (.int (own_rch (own_value k1 q2)))] _
      refine XS.iconst X124.here hx rfl (hb hby at_120) ?_
      exact kt
    by_cases hk3_1 : k1 = (3 : Int32)
    · skip
      have pre127 : ∀ t, Steps p.tables e below (T124.setTop (mkF m 137 #[.val (.int p0), .val (.long q1), .second, .val (.long q2), .second, .val (.long q3), .second, .val (.int p4), .val (.int k0), .val (.int k1), .val (.int k2), .val (.ref b101), .val (.ref b115), .val (.ref b117), .val (.int (own_rch (own_value k0 q1))), .val (.int (own_rch (own_value k1 q2))), .val (.int (own_rch (own_value k2 q3)))] [(.int 3), (.int k2), (.int (own_rch (own_value k2 q3)))])) t → Steps p.tables e below (s₁.setTop (mkF m 0 #[.val (.int p0), .val (.long q1), .second, .val (.long q2), .second, .val (.long q3), .second, .val (.int p4), .unset, .unset, .unset, .unset, .unset, .unset, .unset, .unset, .unset] [])) t := by
        intro t kt
        refine pre126 _ ?_
        show own_S p e below T124 m 121 #[.val (.int p0), .val (.long q1), .second, .val (.long q2), .second, .val (.long q3), .second, .val (.int p4), .val (.int k0), .val (.int k1), .val (.int k2), .val (.ref b101), .val (.ref b115), .val (.ref b117), .val (.int (own_rch (own_value k0 q1))), .val (.int (own_rch (own_value k1 q2))), .val (.int (own_rch (own_value k2 q3)))] [(.int 3), (.int k1), (.int (own_rch (own_value k1 q2)))] _
        refine XS.icmpYes X124.here hx rfl (pc0 := 121) (pc' := 128) rfl (hb hby at_121) rfl (teq (hk3_1 : k1 = (3 : Int32))).1 (by decide) (by decide) ?_
        show own_S p e below T124 m 128 #[.val (.int p0), .val (.long q1), .second, .val (.long q2), .second, .val (.long q3), .second, .val (.int p4), .val (.int k0), .val (.int k1), .val (.int k2), .val (.ref b101), .val (.ref b115), .val (.ref b117), .val (.int (own_rch (own_value k0 q1))), .val (.int (own_rch (own_value k1 q2))), .val (.int (own_rch (own_value k2 q3)))] [(.int (own_rch (own_value k1 q2)))] _
        refine XS.iconst X124.here hx rfl (hb hby at_128) ?_
        show own_S p e below T124 m 129 #[.val (.int p0), .val (.long q1), .second, .val (.long q2), .second, .val (.long q3), .second, .val (.int p4), .val (.int k0), .val (.int k1), .val (.int k2), .val (.ref b101), .val (.ref b115), .val (.ref b117), .val (.int (own_rch (own_value k0 q1))), .val (.int (own_rch (own_value k1 q2))), .val (.int (own_rch (own_value k2 q3)))] [(.int 0), (.int (own_rch (own_value k1 q2)))] _
        refine re2I (own_r0 q2 hk3_1 : (own_rch (own_value k1 q2)) = (0 : Int32)) ?_
        show own_S p e below T124 m 129 #[.val (.int p0), .val (.long q1), .second, .val (.long q2), .second, .val (.long q3), .second, .val (.int p4), .val (.int k0), .val (.int k1), .val (.int k2), .val (.ref b101), .val (.ref b115), .val (.ref b117), .val (.int (own_rch (own_value k0 q1))), .val (.int (own_rch (own_value k1 q2))), .val (.int (own_rch (own_value k2 q3)))] [(.int 0), (.int 0)] _
        refine XS.icmpNo X124.here hx rfl (hb hby at_129) rfl (teq (by decide : (0 : Int32) = (0 : Int32))).2 ?_
        show own_S p e below T124 m 132 #[.val (.int p0), .val (.long q1), .second, .val (.long q2), .second, .val (.long q3), .second, .val (.int p4), .val (.int k0), .val (.int k1), .val (.int k2), .val (.ref b101), .val (.ref b115), .val (.ref b117), .val (.int (own_rch (own_value k0 q1))), .val (.int (own_rch (own_value k1 q2))), .val (.int (own_rch (own_value k2 q3)))] [] _
        refine XS.iload X124.here hx rfl (hb hby at_132) rfl ?_
        show own_S p e below T124 m 134 #[.val (.int p0), .val (.long q1), .second, .val (.long q2), .second, .val (.long q3), .second, .val (.int p4), .val (.int k0), .val (.int k1), .val (.int k2), .val (.ref b101), .val (.ref b115), .val (.ref b117), .val (.int (own_rch (own_value k0 q1))), .val (.int (own_rch (own_value k1 q2))), .val (.int (own_rch (own_value k2 q3)))] [(.int (own_rch (own_value k2 q3)))] _
        refine XS.iload X124.here hx rfl (hb hby at_134) rfl ?_
        show own_S p e below T124 m 136 #[.val (.int p0), .val (.long q1), .second, .val (.long q2), .second, .val (.long q3), .second, .val (.int p4), .val (.int k0), .val (.int k1), .val (.int k2), .val (.ref b101), .val (.ref b115), .val (.ref b117), .val (.int (own_rch (own_value k0 q1))), .val (.int (own_rch (own_value k1 q2))), .val (.int (own_rch (own_value k2 q3)))] [(.int k2), (.int (own_rch (own_value k2 q3)))] _
        refine XS.iconst X124.here hx rfl (hb hby at_136) ?_
        exact kt
      by_cases hk3_2 : k2 = (3 : Int32)
      · skip
        obtain ⟨fs, hr, hrun, hended, hW, hsame⟩ := X124.leave (v := some (.int 1)) (fun h => by rw [Bd.returns] at h; cases h)
        refine ⟨_, _, pre0 _ (pre127 _ ?_), hrun, hended, _, _, rfl, ?_, ⟨_, rfl⟩, hW, hsame.mono (by decide) (by decide)⟩
        · show own_S p e below T124 m 137 #[.val (.int p0), .val (.long q1), .second, .val (.long q2), .second, .val (.long q3), .second, .val (.int p4), .val (.int k0), .val (.int k1), .val (.int k2), .val (.ref b101), .val (.ref b115), .val (.ref b117), .val (.int (own_rch (own_value k0 q1))), .val (.int (own_rch (own_value k1 q2))), .val (.int (own_rch (own_value k2 q3)))] [(.int 3), (.int k2), (.int (own_rch (own_value k2 q3)))] _
          refine XS.icmpYes X124.here hx rfl (pc0 := 137) (pc' := 144) rfl (hb hby at_137) rfl (teq (hk3_2 : k2 = (3 : Int32))).1 (by decide) (by decide) ?_
          show own_S p e below T124 m 144 #[.val (.int p0), .val (.long q1), .second, .val (.long q2), .second, .val (.long q3), .second, .val (.int p4), .val (.int k0), .val (.int k1), .val (.int k2), .val (.ref b101), .val (.ref b115), .val (.ref b117), .val (.int (own_rch (own_value k0 q1))), .val (.int (own_rch (own_value k1 q2))), .val (.int (own_rch (own_value k2 q3)))] [(.int (own_rch (own_value k2 q3)))] _
          refine XS.iconst X124.here hx rfl (hb hby at_144) ?_
          show own_S p e below T124 m 145 #[.val (.int p0), .val (.long q1), .second, .val (.long q2), .second, .val (.long q3), .second, .val (.int p4), .val (.int k0), .val (.int k1), .val (.int k2), .val (.ref b101), .val (.ref b115), .val (.ref b117), .val (.int (own_rch (own_value k0 q1))), .val (.int (own_rch (own_value k1 q2))), .val (.int (own_rch (own_value k2 q3)))] [(.int 0), (.int (own_rch (own_value k2 q3)))] _
          refine re2I (own_r0 q3 hk3_2 : (own_rch (own_value k2 q3)) = (0 : Int32)) ?_
          show own_S p e below T124 m 145 #[.val (.int p0), .val (.long q1), .second, .val (.long q2), .second, .val (.long q3), .second, .val (.int p4), .val (.int k0), .val (.int k1), .val (.int k2), .val (.ref b101), .val (.ref b115), .val (.ref b117), .val (.int (own_rch (own_value k0 q1))), .val (.int (own_rch (own_value k1 q2))), .val (.int (own_rch (own_value k2 q3)))] [(.int 0), (.int 0)] _
          refine XS.icmpNo X124.here hx rfl (hb hby at_145) rfl (teq (by decide : (0 : Int32) = (0 : Int32))).2 ?_
          show own_S p e below T124 m 148 #[.val (.int p0), .val (.long q1), .second, .val (.long q2), .second, .val (.long q3), .second, .val (.int p4), .val (.int k0), .val (.int k1), .val (.int k2), .val (.ref b101), .val (.ref b115), .val (.ref b117), .val (.int (own_rch (own_value k0 q1))), .val (.int (own_rch (own_value k1 q2))), .val (.int (own_rch (own_value k2 q3)))] [] _
          refine XS.iconst X124.here hx rfl (hb hby at_148) ?_
          show own_S p e below T124 m 149 #[.val (.int p0), .val (.long q1), .second, .val (.long q2), .second, .val (.long q3), .second, .val (.int p4), .val (.int k0), .val (.int k1), .val (.int k2), .val (.ref b101), .val (.ref b115), .val (.ref b117), .val (.int (own_rch (own_value k0 q1))), .val (.int (own_rch (own_value k1 q2))), .val (.int (own_rch (own_value k2 q3)))] [(.int 1)] _
          refine XS.goto X124.here hx rfl (pc0 := 149) (pc' := 153) rfl (hb hby at_149) (by decide) (by decide) ?_
          show own_S p e below T124 m 153 #[.val (.int p0), .val (.long q1), .second, .val (.long q2), .second, .val (.long q3), .second, .val (.int p4), .val (.int k0), .val (.int k1), .val (.int k2), .val (.ref b101), .val (.ref b115), .val (.ref b117), .val (.int (own_rch (own_value k0 q1))), .val (.int (own_rch (own_value k1 q2))), .val (.int (own_rch (own_value k2 q3)))] [(.int 1)] _
          exact retN X124 hx (t := .boolean) Bd.returns (by simp) (hb hby at_153) hr
        · show Qm0 Z p0 q1 q2 q3 p4 h0 n0 _ T124.heap _
          rw [P124_0]
          exact ⟨rfl, N124⟩
      · skip
        obtain ⟨fs, hr, hrun, hended, hW, hsame⟩ := X124.leave (v := some (.int 1)) (fun h => by rw [Bd.returns] at h; cases h)
        refine ⟨_, _, pre0 _ (pre127 _ ?_), hrun, hended, _, _, rfl, ?_, ⟨_, rfl⟩, hW, hsame.mono (by decide) (by decide)⟩
        · show own_S p e below T124 m 137 #[.val (.int p0), .val (.long q1), .second, .val (.long q2), .second, .val (.long q3), .second, .val (.int p4), .val (.int k0), .val (.int k1), .val (.int k2), .val (.ref b101), .val (.ref b115), .val (.ref b117), .val (.int (own_rch (own_value k0 q1))), .val (.int (own_rch (own_value k1 q2))), .val (.int (own_rch (own_value k2 q3)))] [(.int 3), (.int k2), (.int (own_rch (own_value k2 q3)))] _
          refine XS.icmpNo X124.here hx rfl (hb hby at_137) rfl (feq (hk3_2 : ¬ (k2 = (3 : Int32)))).1 ?_
          show own_S p e below T124 m 140 #[.val (.int p0), .val (.long q1), .second, .val (.long q2), .second, .val (.long q3), .second, .val (.int p4), .val (.int k0), .val (.int k1), .val (.int k2), .val (.ref b101), .val (.ref b115), .val (.ref b117), .val (.int (own_rch (own_value k0 q1))), .val (.int (own_rch (own_value k1 q2))), .val (.int (own_rch (own_value k2 q3)))] [(.int (own_rch (own_value k2 q3)))] _
          refine XS.iconst X124.here hx rfl (hb hby at_140) ?_
          show own_S p e below T124 m 141 #[.val (.int p0), .val (.long q1), .second, .val (.long q2), .second, .val (.long q3), .second, .val (.int p4), .val (.int k0), .val (.int k1), .val (.int k2), .val (.ref b101), .val (.ref b115), .val (.ref b117), .val (.int (own_rch (own_value k0 q1))), .val (.int (own_rch (own_value k1 q2))), .val (.int (own_rch (own_value k2 q3)))] [(.int 1), (.int (own_rch (own_value k2 q3)))] _
          refine re2I (own_r1 q3 hk2 hk3_2 : (own_rch (own_value k2 q3)) = (1 : Int32)) ?_
          show own_S p e below T124 m 141 #[.val (.int p0), .val (.long q1), .second, .val (.long q2), .second, .val (.long q3), .second, .val (.int p4), .val (.int k0), .val (.int k1), .val (.int k2), .val (.ref b101), .val (.ref b115), .val (.ref b117), .val (.int (own_rch (own_value k0 q1))), .val (.int (own_rch (own_value k1 q2))), .val (.int (own_rch (own_value k2 q3)))] [(.int 1), (.int 1)] _
          refine XS.goto X124.here hx rfl (pc0 := 141) (pc' := 145) rfl (hb hby at_141) (by decide) (by decide) ?_
          show own_S p e below T124 m 145 #[.val (.int p0), .val (.long q1), .second, .val (.long q2), .second, .val (.long q3), .second, .val (.int p4), .val (.int k0), .val (.int k1), .val (.int k2), .val (.ref b101), .val (.ref b115), .val (.ref b117), .val (.int (own_rch (own_value k0 q1))), .val (.int (own_rch (own_value k1 q2))), .val (.int (own_rch (own_value k2 q3)))] [(.int 1), (.int 1)] _
          refine XS.icmpNo X124.here hx rfl (hb hby at_145) rfl (teq (by decide : (1 : Int32) = (1 : Int32))).2 ?_
          show own_S p e below T124 m 148 #[.val (.int p0), .val (.long q1), .second, .val (.long q2), .second, .val (.long q3), .second, .val (.int p4), .val (.int k0), .val (.int k1), .val (.int k2), .val (.ref b101), .val (.ref b115), .val (.ref b117), .val (.int (own_rch (own_value k0 q1))), .val (.int (own_rch (own_value k1 q2))), .val (.int (own_rch (own_value k2 q3)))] [] _
          refine XS.iconst X124.here hx rfl (hb hby at_148) ?_
          show own_S p e below T124 m 149 #[.val (.int p0), .val (.long q1), .second, .val (.long q2), .second, .val (.long q3), .second, .val (.int p4), .val (.int k0), .val (.int k1), .val (.int k2), .val (.ref b101), .val (.ref b115), .val (.ref b117), .val (.int (own_rch (own_value k0 q1))), .val (.int (own_rch (own_value k1 q2))), .val (.int (own_rch (own_value k2 q3)))] [(.int 1)] _
          refine XS.goto X124.here hx rfl (pc0 := 149) (pc' := 153) rfl (hb hby at_149) (by decide) (by decide) ?_
          show own_S p e below T124 m 153 #[.val (.int p0), .val (.long q1), .second, .val (.long q2), .second, .val (.long q3), .second, .val (.int p4), .val (.int k0), .val (.int k1), .val (.int k2), .val (.ref b101), .val (.ref b115), .val (.ref b117), .val (.int (own_rch (own_value k0 q1))), .val (.int (own_rch (own_value k1 q2))), .val (.int (own_rch (own_value k2 q3)))] [(.int 1)] _
          exact retN X124 hx (t := .boolean) Bd.returns (by simp) (hb hby at_153) hr
        · show Qm0 Z p0 q1 q2 q3 p4 h0 n0 _ T124.heap _
          rw [P124_0]
          exact ⟨rfl, N124⟩
    · skip
      have pre128 : ∀ t, Steps p.tables e below (T124.setTop (mkF m 137 #[.val (.int p0), .val (.long q1), .second, .val (.long q2), .second, .val (.long q3), .second, .val (.int p4), .val (.int k0), .val (.int k1), .val (.int k2), .val (.ref b101), .val (.ref b115), .val (.ref b117), .val (.int (own_rch (own_value k0 q1))), .val (.int (own_rch (own_value k1 q2))), .val (.int (own_rch (own_value k2 q3)))] [(.int 3), (.int k2), (.int (own_rch (own_value k2 q3)))])) t → Steps p.tables e below (s₁.setTop (mkF m 0 #[.val (.int p0), .val (.long q1), .second, .val (.long q2), .second, .val (.long q3), .second, .val (.int p4), .unset, .unset, .unset, .unset, .unset, .unset, .unset, .unset, .unset] [])) t := by
        intro t kt
        refine pre126 _ ?_
        show own_S p e below T124 m 121 #[.val (.int p0), .val (.long q1), .second, .val (.long q2), .second, .val (.long q3), .second, .val (.int p4), .val (.int k0), .val (.int k1), .val (.int k2), .val (.ref b101), .val (.ref b115), .val (.ref b117), .val (.int (own_rch (own_value k0 q1))), .val (.int (own_rch (own_value k1 q2))), .val (.int (own_rch (own_value k2 q3)))] [(.int 3), (.int k1), (.int (own_rch (own_value k1 q2)))] _
        refine XS.icmpNo X124.here hx rfl (hb hby at_121) rfl (feq (hk3_1 : ¬ (k1 = (3 : Int32)))).1 ?_
        show own_S p e below T124 m 124 #[.val (.int p0), .val (.long q1), .second, .val (.long q2), .second, .val (.long q3), .second, .val (.int p4), .val (.int k0), .val (.int k1), .val (.int k2), .val (.ref b101), .val (.ref b115), .val (.ref b117), .val (.int (own_rch (own_value k0 q1))), .val (.int (own_rch (own_value k1 q2))), .val (.int (own_rch (own_value k2 q3)))] [(.int (own_rch (own_value k1 q2)))] _
        refine XS.iconst X124.here hx rfl (hb hby at_124) ?_
        show own_S p e below T124 m 125 #[.val (.int p0), .val (.long q1), .second, .val (.long q2), .second, .val (.long q3), .second, .val (.int p4), .val (.int k0), .val (.int k1), .val (.int k2), .val (.ref b101), .val (.ref b115), .val (.ref b117), .val (.int (own_rch (own_value k0 q1))), .val (.int (own_rch (own_value k1 q2))), .val (.int (own_rch (own_value k2 q3)))] [(.int 1), (.int (own_rch (own_value k1 q2)))] _
        refine re2I (own_r1 q2 hk1 hk3_1 : (own_rch (own_value k1 q2)) = (1 : Int32)) ?_
        show own_S p e below T124 m 125 #[.val (.int p0), .val (.long q1), .second, .val (.long q2), .second, .val (.long q3), .second, .val (.int p4), .val (.int k0), .val (.int k1), .val (.int k2), .val (.ref b101), .val (.ref b115), .val (.ref b117), .val (.int (own_rch (own_value k0 q1))), .val (.int (own_rch (own_value k1 q2))), .val (.int (own_rch (own_value k2 q3)))] [(.int 1), (.int 1)] _
        refine XS.goto X124.here hx rfl (pc0 := 125) (pc' := 129) rfl (hb hby at_125) (by decide) (by decide) ?_
        show own_S p e below T124 m 129 #[.val (.int p0), .val (.long q1), .second, .val (.long q2), .second, .val (.long q3), .second, .val (.int p4), .val (.int k0), .val (.int k1), .val (.int k2), .val (.ref b101), .val (.ref b115), .val (.ref b117), .val (.int (own_rch (own_value k0 q1))), .val (.int (own_rch (own_value k1 q2))), .val (.int (own_rch (own_value k2 q3)))] [(.int 1), (.int 1)] _
        refine XS.icmpNo X124.here hx rfl (hb hby at_129) rfl (teq (by decide : (1 : Int32) = (1 : Int32))).2 ?_
        show own_S p e below T124 m 132 #[.val (.int p0), .val (.long q1), .second, .val (.long q2), .second, .val (.long q3), .second, .val (.int p4), .val (.int k0), .val (.int k1), .val (.int k2), .val (.ref b101), .val (.ref b115), .val (.ref b117), .val (.int (own_rch (own_value k0 q1))), .val (.int (own_rch (own_value k1 q2))), .val (.int (own_rch (own_value k2 q3)))] [] _
        refine XS.iload X124.here hx rfl (hb hby at_132) rfl ?_
        show own_S p e below T124 m 134 #[.val (.int p0), .val (.long q1), .second, .val (.long q2), .second, .val (.long q3), .second, .val (.int p4), .val (.int k0), .val (.int k1), .val (.int k2), .val (.ref b101), .val (.ref b115), .val (.ref b117), .val (.int (own_rch (own_value k0 q1))), .val (.int (own_rch (own_value k1 q2))), .val (.int (own_rch (own_value k2 q3)))] [(.int (own_rch (own_value k2 q3)))] _
        refine XS.iload X124.here hx rfl (hb hby at_134) rfl ?_
        show own_S p e below T124 m 136 #[.val (.int p0), .val (.long q1), .second, .val (.long q2), .second, .val (.long q3), .second, .val (.int p4), .val (.int k0), .val (.int k1), .val (.int k2), .val (.ref b101), .val (.ref b115), .val (.ref b117), .val (.int (own_rch (own_value k0 q1))), .val (.int (own_rch (own_value k1 q2))), .val (.int (own_rch (own_value k2 q3)))] [(.int k2), (.int (own_rch (own_value k2 q3)))] _
        refine XS.iconst X124.here hx rfl (hb hby at_136) ?_
        exact kt
      by_cases hk3_2 : k2 = (3 : Int32)
      · skip
        obtain ⟨fs, hr, hrun, hended, hW, hsame⟩ := X124.leave (v := some (.int 1)) (fun h => by rw [Bd.returns] at h; cases h)
        refine ⟨_, _, pre0 _ (pre128 _ ?_), hrun, hended, _, _, rfl, ?_, ⟨_, rfl⟩, hW, hsame.mono (by decide) (by decide)⟩
        · show own_S p e below T124 m 137 #[.val (.int p0), .val (.long q1), .second, .val (.long q2), .second, .val (.long q3), .second, .val (.int p4), .val (.int k0), .val (.int k1), .val (.int k2), .val (.ref b101), .val (.ref b115), .val (.ref b117), .val (.int (own_rch (own_value k0 q1))), .val (.int (own_rch (own_value k1 q2))), .val (.int (own_rch (own_value k2 q3)))] [(.int 3), (.int k2), (.int (own_rch (own_value k2 q3)))] _
          refine XS.icmpYes X124.here hx rfl (pc0 := 137) (pc' := 144) rfl (hb hby at_137) rfl (teq (hk3_2 : k2 = (3 : Int32))).1 (by decide) (by decide) ?_
          show own_S p e below T124 m 144 #[.val (.int p0), .val (.long q1), .second, .val (.long q2), .second, .val (.long q3), .second, .val (.int p4), .val (.int k0), .val (.int k1), .val (.int k2), .val (.ref b101), .val (.ref b115), .val (.ref b117), .val (.int (own_rch (own_value k0 q1))), .val (.int (own_rch (own_value k1 q2))), .val (.int (own_rch (own_value k2 q3)))] [(.int (own_rch (own_value k2 q3)))] _
          refine XS.iconst X124.here hx rfl (hb hby at_144) ?_
          show own_S p e below T124 m 145 #[.val (.int p0), .val (.long q1), .second, .val (.long q2), .second, .val (.long q3), .second, .val (.int p4), .val (.int k0), .val (.int k1), .val (.int k2), .val (.ref b101), .val (.ref b115), .val (.ref b117), .val (.int (own_rch (own_value k0 q1))), .val (.int (own_rch (own_value k1 q2))), .val (.int (own_rch (own_value k2 q3)))] [(.int 0), (.int (own_rch (own_value k2 q3)))] _
          refine re2I (own_r0 q3 hk3_2 : (own_rch (own_value k2 q3)) = (0 : Int32)) ?_
          show own_S p e below T124 m 145 #[.val (.int p0), .val (.long q1), .second, .val (.long q2), .second, .val (.long q3), .second, .val (.int p4), .val (.int k0), .val (.int k1), .val (.int k2), .val (.ref b101), .val (.ref b115), .val (.ref b117), .val (.int (own_rch (own_value k0 q1))), .val (.int (own_rch (own_value k1 q2))), .val (.int (own_rch (own_value k2 q3)))] [(.int 0), (.int 0)] _
          refine XS.icmpNo X124.here hx rfl (hb hby at_145) rfl (teq (by decide : (0 : Int32) = (0 : Int32))).2 ?_
          show own_S p e below T124 m 148 #[.val (.int p0), .val (.long q1), .second, .val (.long q2), .second, .val (.long q3), .second, .val (.int p4), .val (.int k0), .val (.int k1), .val (.int k2), .val (.ref b101), .val (.ref b115), .val (.ref b117), .val (.int (own_rch (own_value k0 q1))), .val (.int (own_rch (own_value k1 q2))), .val (.int (own_rch (own_value k2 q3)))] [] _
          refine XS.iconst X124.here hx rfl (hb hby at_148) ?_
          show own_S p e below T124 m 149 #[.val (.int p0), .val (.long q1), .second, .val (.long q2), .second, .val (.long q3), .second, .val (.int p4), .val (.int k0), .val (.int k1), .val (.int k2), .val (.ref b101), .val (.ref b115), .val (.ref b117), .val (.int (own_rch (own_value k0 q1))), .val (.int (own_rch (own_value k1 q2))), .val (.int (own_rch (own_value k2 q3)))] [(.int 1)] _
          refine XS.goto X124.here hx rfl (pc0 := 149) (pc' := 153) rfl (hb hby at_149) (by decide) (by decide) ?_
          show own_S p e below T124 m 153 #[.val (.int p0), .val (.long q1), .second, .val (.long q2), .second, .val (.long q3), .second, .val (.int p4), .val (.int k0), .val (.int k1), .val (.int k2), .val (.ref b101), .val (.ref b115), .val (.ref b117), .val (.int (own_rch (own_value k0 q1))), .val (.int (own_rch (own_value k1 q2))), .val (.int (own_rch (own_value k2 q3)))] [(.int 1)] _
          exact retN X124 hx (t := .boolean) Bd.returns (by simp) (hb hby at_153) hr
        · show Qm0 Z p0 q1 q2 q3 p4 h0 n0 _ T124.heap _
          rw [P124_0]
          exact ⟨rfl, N124⟩
      · skip
        obtain ⟨fs, hr, hrun, hended, hW, hsame⟩ := X124.leave (v := some (.int 1)) (fun h => by rw [Bd.returns] at h; cases h)
        refine ⟨_, _, pre0 _ (pre128 _ ?_), hrun, hended, _, _, rfl, ?_, ⟨_, rfl⟩, hW, hsame.mono (by decide) (by decide)⟩
        · show own_S p e below T124 m 137 #[.val (.int p0), .val (.long q1), .second, .val (.long q2), .second, .val (.long q3), .second, .val (.int p4), .val (.int k0), .val (.int k1), .val (.int k2), .val (.ref b101), .val (.ref b115), .val (.ref b117), .val (.int (own_rch (own_value k0 q1))), .val (.int (own_rch (own_value k1 q2))), .val (.int (own_rch (own_value k2 q3)))] [(.int 3), (.int k2), (.int (own_rch (own_value k2 q3)))] _
          refine XS.icmpNo X124.here hx rfl (hb hby at_137) rfl (feq (hk3_2 : ¬ (k2 = (3 : Int32)))).1 ?_
          show own_S p e below T124 m 140 #[.val (.int p0), .val (.long q1), .second, .val (.long q2), .second, .val (.long q3), .second, .val (.int p4), .val (.int k0), .val (.int k1), .val (.int k2), .val (.ref b101), .val (.ref b115), .val (.ref b117), .val (.int (own_rch (own_value k0 q1))), .val (.int (own_rch (own_value k1 q2))), .val (.int (own_rch (own_value k2 q3)))] [(.int (own_rch (own_value k2 q3)))] _
          refine XS.iconst X124.here hx rfl (hb hby at_140) ?_
          show own_S p e below T124 m 141 #[.val (.int p0), .val (.long q1), .second, .val (.long q2), .second, .val (.long q3), .second, .val (.int p4), .val (.int k0), .val (.int k1), .val (.int k2), .val (.ref b101), .val (.ref b115), .val (.ref b117), .val (.int (own_rch (own_value k0 q1))), .val (.int (own_rch (own_value k1 q2))), .val (.int (own_rch (own_value k2 q3)))] [(.int 1), (.int (own_rch (own_value k2 q3)))] _
          refine re2I (own_r1 q3 hk2 hk3_2 : (own_rch (own_value k2 q3)) = (1 : Int32)) ?_
          show own_S p e below T124 m 141 #[.val (.int p0), .val (.long q1), .second, .val (.long q2), .second, .val (.long q3), .second, .val (.int p4), .val (.int k0), .val (.int k1), .val (.int k2), .val (.ref b101), .val (.ref b115), .val (.ref b117), .val (.int (own_rch (own_value k0 q1))), .val (.int (own_rch (own_value k1 q2))), .val (.int (own_rch (own_value k2 q3)))] [(.int 1), (.int 1)] _
          refine XS.goto X124.here hx rfl (pc0 := 141) (pc' := 145) rfl (hb hby at_141) (by decide) (by decide) ?_
          show own_S p e below T124 m 145 #[.val (.int p0), .val (.long q1), .second, .val (.long q2), .second, .val (.long q3), .second, .val (.int p4), .val (.int k0), .val (.int k1), .val (.int k2), .val (.ref b101), .val (.ref b115), .val (.ref b117), .val (.int (own_rch (own_value k0 q1))), .val (.int (own_rch (own_value k1 q2))), .val (.int (own_rch (own_value k2 q3)))] [(.int 1), (.int 1)] _
          refine XS.icmpNo X124.here hx rfl (hb hby at_145) rfl (teq (by decide : (1 : Int32) = (1 : Int32))).2 ?_
          show own_S p e below T124 m 148 #[.val (.int p0), .val (.long q1), .second, .val (.long q2), .second, .val (.long q3), .second, .val (.int p4), .val (.int k0), .val (.int k1), .val (.int k2), .val (.ref b101), .val (.ref b115), .val (.ref b117), .val (.int (own_rch (own_value k0 q1))), .val (.int (own_rch (own_value k1 q2))), .val (.int (own_rch (own_value k2 q3)))] [] _
          refine XS.iconst X124.here hx rfl (hb hby at_148) ?_
          show own_S p e below T124 m 149 #[.val (.int p0), .val (.long q1), .second, .val (.long q2), .second, .val (.long q3), .second, .val (.int p4), .val (.int k0), .val (.int k1), .val (.int k2), .val (.ref b101), .val (.ref b115), .val (.ref b117), .val (.int (own_rch (own_value k0 q1))), .val (.int (own_rch (own_value k1 q2))), .val (.int (own_rch (own_value k2 q3)))] [(.int 1)] _
          refine XS.goto X124.here hx rfl (pc0 := 149) (pc' := 153) rfl (hb hby at_149) (by decide) (by decide) ?_
          show own_S p e below T124 m 153 #[.val (.int p0), .val (.long q1), .second, .val (.long q2), .second, .val (.long q3), .second, .val (.int p4), .val (.int k0), .val (.int k1), .val (.int k2), .val (.ref b101), .val (.ref b115), .val (.ref b117), .val (.int (own_rch (own_value k0 q1))), .val (.int (own_rch (own_value k1 q2))), .val (.int (own_rch (own_value k2 q3)))] [(.int 1)] _
          exact retN X124 hx (t := .boolean) Bd.returns (by simp) (hb hby at_153) hr
        · show Qm0 Z p0 q1 q2 q3 p4 h0 n0 _ T124.heap _
          rw [P124_0]
          exact ⟨rfl, N124⟩
  · skip
    have pre129 : ∀ t, Steps p.tables e below (T124.setTop (mkF m 121 #[.val (.int p0), .val (.long q1), .second, .val (.long q2), .second, .val (.long q3), .second, .val (.int p4), .val (.int k0), .val (.int k1), .val (.int k2), .val (.ref b101), .val (.ref b115), .val (.ref b117), .val (.int (own_rch (own_value k0 q1))), .val (.int (own_rch (own_value k1 q2))), .val (.int (own_rch (own_value k2 q3)))] [(.int 3), (.int k1), (.int (own_rch (own_value k1 q2)))])) t → Steps p.tables e below (s₁.setTop (mkF m 0 #[.val (.int p0), .val (.long q1), .second, .val (.long q2), .second, .val (.long q3), .second, .val (.int p4), .unset, .unset, .unset, .unset, .unset, .unset, .unset, .unset, .unset] [])) t := by
      intro t kt
      refine pre125 _ ?_
      show own_S p e below T124 m 105 #[.val (.int p0), .val (.long q1), .second, .val (.long q2), .second, .val (.long q3), .second, .val (.int p4), .val (.int k0), .val (.int k1), .val (.int k2), .val (.ref b101), .val (.ref b115), .val (.ref b117), .val (.int (own_rch (own_value k0 q1))), .val (.int (own_rch (own_value k1 q2))), .val (.int (own_rch (own_value k2 q3)))] [(.int 3), (.int k0), (.int (own_rch (own_value k0 q1)))] _
      refine XS.icmpNo X124.here hx rfl (hb hby at_105) rfl (feq (hk3_0 : ¬ (k0 = (3 : Int32)))).1 ?_
      show own_S p e below T124 m 108 #[.val (.int p0), .val (.long q1), .second, .val (.long q2), .second, .val (.long q3), .second, .val (.int p4), .val (.int k0), .val (.int k1), .val (.int k2), .val (.ref b101), .val (.ref b115), .val (.ref b117), .val (.int (own_rch (own_value k0 q1))), .val (.int (own_rch (own_value k1 q2))), .val (.int (own_rch (own_value k2 q3)))] [(.int (own_rch (own_value k0 q1)))] _
      refine XS.iconst X124.here hx rfl (hb hby at_108) ?_
      show own_S p e below T124 m 109 #[.val (.int p0), .val (.long q1), .second, .val (.long q2), .second, .val (.long q3), .second, .val (.int p4), .val (.int k0), .val (.int k1), .val (.int k2), .val (.ref b101), .val (.ref b115), .val (.ref b117), .val (.int (own_rch (own_value k0 q1))), .val (.int (own_rch (own_value k1 q2))), .val (.int (own_rch (own_value k2 q3)))] [(.int 1), (.int (own_rch (own_value k0 q1)))] _
      refine re2I (own_r1 q1 hk0 hk3_0 : (own_rch (own_value k0 q1)) = (1 : Int32)) ?_
      show own_S p e below T124 m 109 #[.val (.int p0), .val (.long q1), .second, .val (.long q2), .second, .val (.long q3), .second, .val (.int p4), .val (.int k0), .val (.int k1), .val (.int k2), .val (.ref b101), .val (.ref b115), .val (.ref b117), .val (.int (own_rch (own_value k0 q1))), .val (.int (own_rch (own_value k1 q2))), .val (.int (own_rch (own_value k2 q3)))] [(.int 1), (.int 1)] _
      refine XS.goto X124.here hx rfl (pc0 := 109) (pc' := 113) rfl (hb hby at_109) (by decide) (by decide) ?_
      show own_S p e below T124 m 113 #[.val (.int p0), .val (.long q1), .second, .val (.long q2), .second, .val (.long q3), .second, .val (.int p4), .val (.int k0), .val (.int k1), .val (.int k2), .val (.ref b101), .val (.ref b115), .val (.ref b117), .val (.int (own_rch (own_value k0 q1))), .val (.int (own_rch (own_value k1 q2))), .val (.int (own_rch (own_value k2 q3)))] [(.int 1), (.int 1)] _
      refine XS.icmpNo X124.here hx rfl (hb hby at_113) rfl (teq (by decide : (1 : Int32) = (1 : Int32))).2 ?_
      show own_S p e below T124 m 116 #[.val (.int p0), .val (.long q1), .second, .val (.long q2), .second, .val (.long q3), .second, .val (.int p4), .val (.int k0), .val (.int k1), .val (.int k2), .val (.ref b101), .val (.ref b115), .val (.ref b117), .val (.int (own_rch (own_value k0 q1))), .val (.int (own_rch (own_value k1 q2))), .val (.int (own_rch (own_value k2 q3)))] [] _
      refine XS.iload X124.here hx rfl (hb hby at_116) rfl ?_
      show own_S p e below T124 m 118 #[.val (.int p0), .val (.long q1), .second, .val (.long q2), .second, .val (.long q3), .second, .val (.int p4), .val (.int k0), .val (.int k1), .val (.int k2), .val (.ref b101), .val (.ref b115), .val (.ref b117), .val (.int (own_rch (own_value k0 q1))), .val (.int (own_rch (own_value k1 q2))), .val (.int (own_rch (own_value k2 q3)))] [(.int (own_rch (own_value k1 q2)))] _
      refine XS.iload X124.here hx rfl (hb hby at_118) rfl ?_
      show own_S p e below T124 m 120 #[.val (.int p0), .val (.long q1), .second, .val (.long q2), .second, .val (.long q3), .second, .val (.int p4), .val (.int k0), .val (.int k1), .val (.int k2), .val (.ref b101), .val (.ref b115), .val (.ref b117), .val (.int (own_rch (own_value k0 q1))), .val (.int (own_rch (own_value k1 q2))), .val (.int (own_rch (own_value k2 q3)))] [(.int k1), (.int (own_rch (own_value k1 q2)))] _
      refine XS.iconst X124.here hx rfl (hb hby at_120) ?_
      exact kt
    by_cases hk3_1 : k1 = (3 : Int32)
    · skip
      have pre130 : ∀ t, Steps p.tables e below (T124.setTop (mkF m 137 #[.val (.int p0), .val (.long q1), .second, .val (.long q2), .second, .val (.long q3), .second, .val (.int p4), .val (.int k0), .val (.int k1), .val (.int k2), .val (.ref b101), .val (.ref b115), .val (.ref b117), .val (.int (own_rch (own_value k0 q1))), .val (.int (own_rch (own_value k1 q2))), .val (.int (own_rch (own_value k2 q3)))] [(.int 3), (.int k2), (.int (own_rch (own_value k2 q3)))])) t → Steps p.tables e below (s₁.setTop (mkF m 0 #[.val (.int p0), .val (.long q1), .second, .val (.long q2), .second, .val (.long q3), .second, .val (.int p4), .unset, .unset, .unset, .unset, .unset, .unset, .unset, .unset, .unset] [])) t := by
        intro t kt
        refine pre129 _ ?_
        show own_S p e below T124 m 121 #[.val (.int p0), .val (.long q1), .second, .val (.long q2), .second, .val (.long q3), .second, .val (.int p4), .val (.int k0), .val (.int k1), .val (.int k2), .val (.ref b101), .val (.ref b115), .val (.ref b117), .val (.int (own_rch (own_value k0 q1))), .val (.int (own_rch (own_value k1 q2))), .val (.int (own_rch (own_value k2 q3)))] [(.int 3), (.int k1), (.int (own_rch (own_value k1 q2)))] _
        refine XS.icmpYes X124.here hx rfl (pc0 := 121) (pc' := 128) rfl (hb hby at_121) rfl (teq (hk3_1 : k1 = (3 : Int32))).1 (by decide) (by decide) ?_
        show own_S p e below T124 m 128 #[.val (.int p0), .val (.long q1), .second, .val (.long q2), .second, .val (.long q3), .second, .val (.int p4), .val (.int k0), .val (.int k1), .val (.int k2), .val (.ref b101), .val (.ref b115), .val (.ref b117), .val (.int (own_rch (own_value k0 q1))), .val (.int (own_rch (own_value k1 q2))), .val (.int (own_rch (own_value k2 q3)))] [(.int (own_rch (own_value k1 q2)))] _
        refine XS.iconst X124.here hx rfl (hb hby at_128) ?_
        show own_S p e below T124 m 129 #[.val (.int p0), .val (.long q1), .second, .val (.long q2), .second, .val (.long q3), .second, .val (.int p4), .val (.int k0), .val (.int k1), .val (.int k2), .val (.ref b101), .val (.ref b115), .val (.ref b117), .val (.int (own_rch (own_value k0 q1))), .val (.int (own_rch (own_value k1 q2))), .val (.int (own_rch (own_value k2 q3)))] [(.int 0), (.int (own_rch (own_value k1 q2)))] _
        refine re2I (own_r0 q2 hk3_1 : (own_rch (own_value k1 q2)) = (0 : Int32)) ?_
        show own_S p e below T124 m 129 #[.val (.int p0), .val (.long q1), .second, .val (.long q2), .second, .val (.long q3), .second, .val (.int p4), .val (.int k0), .val (.int k1), .val (.int k2), .val (.ref b101), .val (.ref b115), .val (.ref b117), .val (.int (own_rch (own_value k0 q1))), .val (.int (own_rch (own_value k1 q2))), .val (.int (own_rch (own_value k2 q3)))] [(.int 0), (.int 0)] _
        refine XS.icmpNo X124.here hx rfl (hb hby at_129) rfl (teq (by decide : (0 : Int32) = (0 : Int32))).2 ?_
        show own_S p e below T124 m 132 #[.val (.int p0), .val (.long q1), .second, .val (.long q2), .second, .val (.long q3), .second, .val (.int p4), .val (.int k0), .val (.int k1), .val (.int k2), .val (.ref b101), .val (.ref b115), .val (.ref b117), .val (.int (own_rch (own_value k0 q1))), .val (.int (own_rch (own_value k1 q2))), .val (.int (own_rch (own_value k2 q3)))] [] _
        refine XS.iload X124.here hx rfl (hb hby at_132) rfl ?_
        show own_S p e below T124 m 134 #[.val (.int p0), .val (.long q1), .second, .val (.long q2), .second, .val (.long q3), .second, .val (.int p4), .val (.int k0), .val (.int k1), .val (.int k2), .val (.ref b101), .val (.ref b115), .val (.ref b117), .val (.int (own_rch (own_value k0 q1))), .val (.int (own_rch (own_value k1 q2))), .val (.int (own_rch (own_value k2 q3)))] [(.int (own_rch (own_value k2 q3)))] _
        refine XS.iload X124.here hx rfl (hb hby at_134) rfl ?_
        show own_S p e below T124 m 136 #[.val (.int p0), .val (.long q1), .second, .val (.long q2), .second, .val (.long q3), .second, .val (.int p4), .val (.int k0), .val (.int k1), .val (.int k2), .val (.ref b101), .val (.ref b115), .val (.ref b117), .val (.int (own_rch (own_value k0 q1))), .val (.int (own_rch (own_value k1 q2))), .val (.int (own_rch (own_value k2 q3)))] [(.int k2), (.int (own_rch (own_value k2 q3)))] _
        refine XS.iconst X124.here hx rfl (hb hby at_136) ?_
        exact kt
      by_cases hk3_2 : k2 = (3 : Int32)
      · skip
        obtain ⟨fs, hr, hrun, hended, hW, hsame⟩ := X124.leave (v := some (.int 1)) (fun h => by rw [Bd.returns] at h; cases h)
        refine ⟨_, _, pre0 _ (pre130 _ ?_), hrun, hended, _, _, rfl, ?_, ⟨_, rfl⟩, hW, hsame.mono (by decide) (by decide)⟩
        · show own_S p e below T124 m 137 #[.val (.int p0), .val (.long q1), .second, .val (.long q2), .second, .val (.long q3), .second, .val (.int p4), .val (.int k0), .val (.int k1), .val (.int k2), .val (.ref b101), .val (.ref b115), .val (.ref b117), .val (.int (own_rch (own_value k0 q1))), .val (.int (own_rch (own_value k1 q2))), .val (.int (own_rch (own_value k2 q3)))] [(.int 3), (.int k2), (.int (own_rch (own_value k2 q3)))] _
          refine XS.icmpYes X124.here hx rfl (pc0 := 137) (pc' := 144) rfl (hb hby at_137) rfl (teq (hk3_2 : k2 = (3 : Int32))).1 (by decide) (by decide) ?_
          show own_S p e below T124 m 144 #[.val (.int p0), .val (.long q1), .second, .val (.long q2), .second, .val (.long q3), .second, .val (.int p4), .val (.int k0), .val (.int k1), .val (.int k2), .val (.ref b101), .val (.ref b115), .val (.ref b117), .val (.int (own_rch (own_value k0 q1))), .val (.int (own_rch (own_value k1 q2))), .val (.int (own_rch (own_value k2 q3)))] [(.int (own_rch (own_value k2 q3)))] _
          refine XS.iconst X124.here hx rfl (hb hby at_144) ?_
          show own_S p e below T124 m 145 #[.val (.int p0), .val (.long q1), .second, .val (.long q2), .second, .val (.long q3), .second, .val (.int p4), .val (.int k0), .val (.int k1), .val (.int k2), .val (.ref b101), .val (.ref b115), .val (.ref b117), .val (.int (own_rch (own_value k0 q1))), .val (.int (own_rch (own_value k1 q2))), .val (.int (own_rch (own_value k2 q3)))] [(.int 0), (.int (own_rch (own_value k2 q3)))] _
          refine re2I (own_r0 q3 hk3_2 : (own_rch (own_value k2 q3)) = (0 : Int32)) ?_
          show own_S p e below T124 m 145 #[.val (.int p0), .val (.long q1), .second, .val (.long q2), .second, .val (.long q3), .second, .val (.int p4), .val (.int k0), .val (.int k1), .val (.int k2), .val (.ref b101), .val (.ref b115), .val (.ref b117), .val (.int (own_rch (own_value k0 q1))), .val (.int (own_rch (own_value k1 q2))), .val (.int (own_rch (own_value k2 q3)))] [(.int 0), (.int 0)] _
          refine XS.icmpNo X124.here hx rfl (hb hby at_145) rfl (teq (by decide : (0 : Int32) = (0 : Int32))).2 ?_
          show own_S p e below T124 m 148 #[.val (.int p0), .val (.long q1), .second, .val (.long q2), .second, .val (.long q3), .second, .val (.int p4), .val (.int k0), .val (.int k1), .val (.int k2), .val (.ref b101), .val (.ref b115), .val (.ref b117), .val (.int (own_rch (own_value k0 q1))), .val (.int (own_rch (own_value k1 q2))), .val (.int (own_rch (own_value k2 q3)))] [] _
          refine XS.iconst X124.here hx rfl (hb hby at_148) ?_
          show own_S p e below T124 m 149 #[.val (.int p0), .val (.long q1), .second, .val (.long q2), .second, .val (.long q3), .second, .val (.int p4), .val (.int k0), .val (.int k1), .val (.int k2), .val (.ref b101), .val (.ref b115), .val (.ref b117), .val (.int (own_rch (own_value k0 q1))), .val (.int (own_rch (own_value k1 q2))), .val (.int (own_rch (own_value k2 q3)))] [(.int 1)] _
          refine XS.goto X124.here hx rfl (pc0 := 149) (pc' := 153) rfl (hb hby at_149) (by decide) (by decide) ?_
          show own_S p e below T124 m 153 #[.val (.int p0), .val (.long q1), .second, .val (.long q2), .second, .val (.long q3), .second, .val (.int p4), .val (.int k0), .val (.int k1), .val (.int k2), .val (.ref b101), .val (.ref b115), .val (.ref b117), .val (.int (own_rch (own_value k0 q1))), .val (.int (own_rch (own_value k1 q2))), .val (.int (own_rch (own_value k2 q3)))] [(.int 1)] _
          exact retN X124 hx (t := .boolean) Bd.returns (by simp) (hb hby at_153) hr
        · show Qm0 Z p0 q1 q2 q3 p4 h0 n0 _ T124.heap _
          rw [P124_0]
          exact ⟨rfl, N124⟩
      · skip
        obtain ⟨fs, hr, hrun, hended, hW, hsame⟩ := X124.leave (v := some (.int 1)) (fun h => by rw [Bd.returns] at h; cases h)
        refine ⟨_, _, pre0 _ (pre130 _ ?_), hrun, hended, _, _, rfl, ?_, ⟨_, rfl⟩, hW, hsame.mono (by decide) (by decide)⟩
        · show own_S p e below T124 m 137 #[.val (.int p0), .val (.long q1), .second, .val (.long q2), .second, .val (.long q3), .second, .val (.int p4), .val (.int k0), .val (.int k1), .val (.int k2), .val (.ref b101), .val (.ref b115), .val (.ref b117), .val (.int (own_rch (own_value k0 q1))), .val (.int (own_rch (own_value k1 q2))), .val (.int (own_rch (own_value k2 q3)))] [(.int 3), (.int k2), (.int (own_rch (own_value k2 q3)))] _
          refine XS.icmpNo X124.here hx rfl (hb hby at_137) rfl (feq (hk3_2 : ¬ (k2 = (3 : Int32)))).1 ?_
          show own_S p e below T124 m 140 #[.val (.int p0), .val (.long q1), .second, .val (.long q2), .second, .val (.long q3), .second, .val (.int p4), .val (.int k0), .val (.int k1), .val (.int k2), .val (.ref b101), .val (.ref b115), .val (.ref b117), .val (.int (own_rch (own_value k0 q1))), .val (.int (own_rch (own_value k1 q2))), .val (.int (own_rch (own_value k2 q3)))] [(.int (own_rch (own_value k2 q3)))] _
          refine XS.iconst X124.here hx rfl (hb hby at_140) ?_
          show own_S p e below T124 m 141 #[.val (.int p0), .val (.long q1), .second, .val (.long q2), .second, .val (.long q3), .second, .val (.int p4), .val (.int k0), .val (.int k1), .val (.int k2), .val (.ref b101), .val (.ref b115), .val (.ref b117), .val (.int (own_rch (own_value k0 q1))), .val (.int (own_rch (own_value k1 q2))), .val (.int (own_rch (own_value k2 q3)))] [(.int 1), (.int (own_rch (own_value k2 q3)))] _
          refine re2I (own_r1 q3 hk2 hk3_2 : (own_rch (own_value k2 q3)) = (1 : Int32)) ?_
          show own_S p e below T124 m 141 #[.val (.int p0), .val (.long q1), .second, .val (.long q2), .second, .val (.long q3), .second, .val (.int p4), .val (.int k0), .val (.int k1), .val (.int k2), .val (.ref b101), .val (.ref b115), .val (.ref b117), .val (.int (own_rch (own_value k0 q1))), .val (.int (own_rch (own_value k1 q2))), .val (.int (own_rch (own_value k2 q3)))] [(.int 1), (.int 1)] _
          refine XS.goto X124.here hx rfl (pc0 := 141) (pc' := 145) rfl (hb hby at_141) (by decide) (by decide) ?_
          show own_S p e below T124 m 145 #[.val (.int p0), .val (.long q1), .second, .val (.long q2), .second, .val (.long q3), .second, .val (.int p4), .val (.int k0), .val (.int k1), .val (.int k2), .val (.ref b101), .val (.ref b115), .val (.ref b117), .val (.int (own_rch (own_value k0 q1))), .val (.int (own_rch (own_value k1 q2))), .val (.int (own_rch (own_value k2 q3)))] [(.int 1), (.int 1)] _
          refine XS.icmpNo X124.here hx rfl (hb hby at_145) rfl (teq (by decide : (1 : Int32) = (1 : Int32))).2 ?_
          show own_S p e below T124 m 148 #[.val (.int p0), .val (.long q1), .second, .val (.long q2), .second, .val (.long q3), .second, .val (.int p4), .val (.int k0), .val (.int k1), .val (.int k2), .val (.ref b101), .val (.ref b115), .val (.ref b117), .val (.int (own_rch (own_value k0 q1))), .val (.int (own_rch (own_value k1 q2))), .val (.int (own_rch (own_value k2 q3)))] [] _
          refine XS.iconst X124.here hx rfl (hb hby at_148) ?_
          show own_S p e below T124 m 149 #[.val (.int p0), .val (.long q1), .second, .val (.long q2), .second, .val (.long q3), .second, .val (.int p4), .val (.int k0), .val (.int k1), .val (.int k2), .val (.ref b101), .val (.ref b115), .val (.ref b117), .val (.int (own_rch (own_value k0 q1))), .val (.int (own_rch (own_value k1 q2))), .val (.int (own_rch (own_value k2 q3)))] [(.int 1)] _
          refine XS.goto X124.here hx rfl (pc0 := 149) (pc' := 153) rfl (hb hby at_149) (by decide) (by decide) ?_
          show own_S p e below T124 m 153 #[.val (.int p0), .val (.long q1), .second, .val (.long q2), .second, .val (.long q3), .second, .val (.int p4), .val (.int k0), .val (.int k1), .val (.int k2), .val (.ref b101), .val (.ref b115), .val (.ref b117), .val (.int (own_rch (own_value k0 q1))), .val (.int (own_rch (own_value k1 q2))), .val (.int (own_rch (own_value k2 q3)))] [(.int 1)] _
          exact retN X124 hx (t := .boolean) Bd.returns (by simp) (hb hby at_153) hr
        · show Qm0 Z p0 q1 q2 q3 p4 h0 n0 _ T124.heap _
          rw [P124_0]
          exact ⟨rfl, N124⟩
    · skip
      have pre131 : ∀ t, Steps p.tables e below (T124.setTop (mkF m 137 #[.val (.int p0), .val (.long q1), .second, .val (.long q2), .second, .val (.long q3), .second, .val (.int p4), .val (.int k0), .val (.int k1), .val (.int k2), .val (.ref b101), .val (.ref b115), .val (.ref b117), .val (.int (own_rch (own_value k0 q1))), .val (.int (own_rch (own_value k1 q2))), .val (.int (own_rch (own_value k2 q3)))] [(.int 3), (.int k2), (.int (own_rch (own_value k2 q3)))])) t → Steps p.tables e below (s₁.setTop (mkF m 0 #[.val (.int p0), .val (.long q1), .second, .val (.long q2), .second, .val (.long q3), .second, .val (.int p4), .unset, .unset, .unset, .unset, .unset, .unset, .unset, .unset, .unset] [])) t := by
        intro t kt
        refine pre129 _ ?_
        show own_S p e below T124 m 121 #[.val (.int p0), .val (.long q1), .second, .val (.long q2), .second, .val (.long q3), .second, .val (.int p4), .val (.int k0), .val (.int k1), .val (.int k2), .val (.ref b101), .val (.ref b115), .val (.ref b117), .val (.int (own_rch (own_value k0 q1))), .val (.int (own_rch (own_value k1 q2))), .val (.int (own_rch (own_value k2 q3)))] [(.int 3), (.int k1), (.int (own_rch (own_value k1 q2)))] _
        refine XS.icmpNo X124.here hx rfl (hb hby at_121) rfl (feq (hk3_1 : ¬ (k1 = (3 : Int32)))).1 ?_
        show own_S p e below T124 m 124 #[.val (.int p0), .val (.long q1), .second, .val (.long q2), .second, .val (.long q3), .second, .val (.int p4), .val (.int k0), .val (.int k1), .val (.int k2), .val (.ref b101), .val (.ref b115), .val (.ref b117), .val (.int (own_rch (own_value k0 q1))), .val (.int (own_rch (own_value k1 q2))), .val (.int (own_rch (own_value k2 q3)))] [(.int (own_rch (own_value k1 q2)))] _
        refine XS.iconst X124.here hx rfl (hb hby at_124) ?_
        show own_S p e below T124 m 125 #[.val (.int p0), .val (.long q1), .second, .val (.long q2), .second, .val (.long q3), .second, .val (.int p4), .val (.int k0), .val (.int k1), .val (.int k2), .val (.ref b101), .val (.ref b115), .val (.ref b117), .val (.int (own_rch (own_value k0 q1))), .val (.int (own_rch (own_value k1 q2))), .val (.int (own_rch (own_value k2 q3)))] [(.int 1), (.int (own_rch (own_value k1 q2)))] _
        refine re2I (own_r1 q2 hk1 hk3_1 : (own_rch (own_value k1 q2)) = (1 : Int32)) ?_
        show own_S p e below T124 m 125 #[.val (.int p0), .val (.long q1), .second, .val (.long q2), .second, .val (.long q3), .second, .val (.int p4), .val (.int k0), .val (.int k1), .val (.int k2), .val (.ref b101), .val (.ref b115), .val (.ref b117), .val (.int (own_rch (own_value k0 q1))), .val (.int (own_rch (own_value k1 q2))), .val (.int (own_rch (own_value k2 q3)))] [(.int 1), (.int 1)] _
        refine XS.goto X124.here hx rfl (pc0 := 125) (pc' := 129) rfl (hb hby at_125) (by decide) (by decide) ?_
        show own_S p e below T124 m 129 #[.val (.int p0), .val (.long q1), .second, .val (.long q2), .second, .val (.long q3), .second, .val (.int p4), .val (.int k0), .val (.int k1), .val (.int k2), .val (.ref b101), .val (.ref b115), .val (.ref b117), .val (.int (own_rch (own_value k0 q1))), .val (.int (own_rch (own_value k1 q2))), .val (.int (own_rch (own_value k2 q3)))] [(.int 1), (.int 1)] _
        refine XS.icmpNo X124.here hx rfl (hb hby at_129) rfl (teq (by decide : (1 : Int32) = (1 : Int32))).2 ?_
        show own_S p e below T124 m 132 #[.val (.int p0), .val (.long q1), .second, .val (.long q2), .second, .val (.long q3), .second, .val (.int p4), .val (.int k0), .val (.int k1), .val (.int k2), .val (.ref b101), .val (.ref b115), .val (.ref b117), .val (.int (own_rch (own_value k0 q1))), .val (.int (own_rch (own_value k1 q2))), .val (.int (own_rch (own_value k2 q3)))] [] _
        refine XS.iload X124.here hx rfl (hb hby at_132) rfl ?_
        show own_S p e below T124 m 134 #[.val (.int p0), .val (.long q1), .second, .val (.long q2), .second, .val (.long q3), .second, .val (.int p4), .val (.int k0), .val (.int k1), .val (.int k2), .val (.ref b101), .val (.ref b115), .val (.ref b117), .val (.int (own_rch (own_value k0 q1))), .val (.int (own_rch (own_value k1 q2))), .val (.int (own_rch (own_value k2 q3)))] [(.int (own_rch (own_value k2 q3)))] _
        refine XS.iload X124.here hx rfl (hb hby at_134) rfl ?_
        show own_S p e below T124 m 136 #[.val (.int p0), .val (.long q1), .second, .val (.long q2), .second, .val (.long q3), .second, .val (.int p4), .val (.int k0), .val (.int k1), .val (.int k2), .val (.ref b101), .val (.ref b115), .val (.ref b117), .val (.int (own_rch (own_value k0 q1))), .val (.int (own_rch (own_value k1 q2))), .val (.int (own_rch (own_value k2 q3)))] [(.int k2), (.int (own_rch (own_value k2 q3)))] _
        refine XS.iconst X124.here hx rfl (hb hby at_136) ?_
        exact kt
      by_cases hk3_2 : k2 = (3 : Int32)
      · skip
        obtain ⟨fs, hr, hrun, hended, hW, hsame⟩ := X124.leave (v := some (.int 1)) (fun h => by rw [Bd.returns] at h; cases h)
        refine ⟨_, _, pre0 _ (pre131 _ ?_), hrun, hended, _, _, rfl, ?_, ⟨_, rfl⟩, hW, hsame.mono (by decide) (by decide)⟩
        · show own_S p e below T124 m 137 #[.val (.int p0), .val (.long q1), .second, .val (.long q2), .second, .val (.long q3), .second, .val (.int p4), .val (.int k0), .val (.int k1), .val (.int k2), .val (.ref b101), .val (.ref b115), .val (.ref b117), .val (.int (own_rch (own_value k0 q1))), .val (.int (own_rch (own_value k1 q2))), .val (.int (own_rch (own_value k2 q3)))] [(.int 3), (.int k2), (.int (own_rch (own_value k2 q3)))] _
          refine XS.icmpYes X124.here hx rfl (pc0 := 137) (pc' := 144) rfl (hb hby at_137) rfl (teq (hk3_2 : k2 = (3 : Int32))).1 (by decide) (by decide) ?_
          show own_S p e below T124 m 144 #[.val (.int p0), .val (.long q1), .second, .val (.long q2), .second, .val (.long q3), .second, .val (.int p4), .val (.int k0), .val (.int k1), .val (.int k2), .val (.ref b101), .val (.ref b115), .val (.ref b117), .val (.int (own_rch (own_value k0 q1))), .val (.int (own_rch (own_value k1 q2))), .val (.int (own_rch (own_value k2 q3)))] [(.int (own_rch (own_value k2 q3)))] _
          refine XS.iconst X124.here hx rfl (hb hby at_144) ?_
          show own_S p e below T124 m 145 #[.val (.int p0), .val (.long q1), .second, .val (.long q2), .second, .val (.long q3), .second, .val (.int p4), .val (.int k0), .val (.int k1), .val (.int k2), .val (.ref b101), .val (.ref b115), .val (.ref b117), .val (.int (own_rch (own_value k0 q1))), .val (.int (own_rch (own_value k1 q2))), .val (.int (own_rch (own_value k2 q3)))] [(.int 0), (.int (own_rch (own_value k2 q3)))] _
          refine re2I (own_r0 q3 hk3_2 : (own_rch (own_value k2 q3)) = (0 : Int32)) ?_
          show own_S p e below T124 m 145 #[.val (.int p0), .val (.long q1), .second, .val (.long q2), .second, .val (.long q3), .second, .val (.int p4), .val (.int k0), .val (.int k1), .val (.int k2), .val (.ref b101), .val (.ref b115), .val (.ref b117), .val (.int (own_rch (own_value k0 q1))), .val (.int (own_rch (own_value k1 q2))), .val (.int (own_rch (own_value k2 q3)))] [(.int 0), (.int 0)] _
          refine XS.icmpNo X124.here hx rfl (hb hby at_145) rfl (teq (by decide : (0 : Int32) = (0 : Int32))).2 ?_
          show own_S p e below T124 m 148 #[.val (.int p0), .val (.long q1), .second, .val (.long q2), .second, .val (.long q3), .second, .val (.int p4), .val (.int k0), .val (.int k1), .val (.int k2), .val (.ref b101), .val (.ref b115), .val (.ref b117), .val (.int (own_rch (own_value k0 q1))), .val (.int (own_rch (own_value k1 q2))), .val (.int (own_rch (own_value k2 q3)))] [] _
          refine XS.iconst X124.here hx rfl (hb hby at_148) ?_
          show own_S p e below T124 m 149 #[.val (.int p0), .val (.long q1), .second, .val (.long q2), .second, .val (.long q3), .second, .val (.int p4), .val (.int k0), .val (.int k1), .val (.int k2), .val (.ref b101), .val (.ref b115), .val (.ref b117), .val (.int (own_rch (own_value k0 q1))), .val (.int (own_rch (own_value k1 q2))), .val (.int (own_rch (own_value k2 q3)))] [(.int 1)] _
          refine XS.goto X124.here hx rfl (pc0 := 149) (pc' := 153) rfl (hb hby at_149) (by decide) (by decide) ?_
          show own_S p e below T124 m 153 #[.val (.int p0), .val (.long q1), .second, .val (.long q2), .second, .val (.long q3), .second, .val (.int p4), .val (.int k0), .val (.int k1), .val (.int k2), .val (.ref b101), .val (.ref b115), .val (.ref b117), .val (.int (own_rch (own_value k0 q1))), .val (.int (own_rch (own_value k1 q2))), .val (.int (own_rch (own_value k2 q3)))] [(.int 1)] _
          exact retN X124 hx (t := .boolean) Bd.returns (by simp) (hb hby at_153) hr
        · show Qm0 Z p0 q1 q2 q3 p4 h0 n0 _ T124.heap _
          rw [P124_0]
          exact ⟨rfl, N124⟩
      · skip
        obtain ⟨fs, hr, hrun, hended, hW, hsame⟩ := X124.leave (v := some (.int 1)) (fun h => by rw [Bd.returns] at h; cases h)
        refine ⟨_, _, pre0 _ (pre131 _ ?_), hrun, hended, _, _, rfl, ?_, ⟨_, rfl⟩, hW, hsame.mono (by decide) (by decide)⟩
        · show own_S p e below T124 m 137 #[.val (.int p0), .val (.long q1), .second, .val (.long q2), .second, .val (.long q3), .second, .val (.int p4), .val (.int k0), .val (.int k1), .val (.int k2), .val (.ref b101), .val (.ref b115), .val (.ref b117), .val (.int (own_rch (own_value k0 q1))), .val (.int (own_rch (own_value k1 q2))), .val (.int (own_rch (own_value k2 q3)))] [(.int 3), (.int k2), (.int (own_rch (own_value k2 q3)))] _
          refine XS.icmpNo X124.here hx rfl (hb hby at_137) rfl (feq (hk3_2 : ¬ (k2 = (3 : Int32)))).1 ?_
          show own_S p e below T124 m 140 #[.val (.int p0), .val (.long q1), .second, .val (.long q2), .second, .val (.long q3), .second, .val (.int p4), .val (.int k0), .val (.int k1), .val (.int k2), .val (.ref b101), .val (.ref b115), .val (.ref b117), .val (.int (own_rch (own_value k0 q1))), .val (.int (own_rch (own_value k1 q2))), .val (.int (own_rch (own_value k2 q3)))] [(.int (own_rch (own_value k2 q3)))] _
          refine XS.iconst X124.here hx rfl (hb hby at_140) ?_
          show own_S p e below T124 m 141 #[.val (.int p0), .val (.long q1), .second, .val (.long q2), .second, .val (.long q3), .second, .val (.int p4), .val (.int k0), .val (.int k1), .val (.int k2), .val (.ref b101), .val (.ref b115), .val (.ref b117), .val (.int (own_rch (own_value k0 q1))), .val (.int (own_rch (own_value k1 q2))), .val (.int (own_rch (own_value k2 q3)))] [(.int 1), (.int (own_rch (own_value k2 q3)))] _
          refine re2I (own_r1 q3 hk2 hk3_2 : (own_rch (own_value k2 q3)) = (1 : Int32)) ?_
          show own_S p e below T124 m 141 #[.val (.int p0), .val (.long q1), .second, .val (.long q2), .second, .val (.long q3), .second, .val (.int p4), .val (.int k0), .val (.int k1), .val (.int k2), .val (.ref b101), .val (.ref b115), .val (.ref b117), .val (.int (own_rch (own_value k0 q1))), .val (.int (own_rch (own_value k1 q2))), .val (.int (own_rch (own_value k2 q3)))] [(.int 1), (.int 1)] _
          refine XS.goto X124.here hx rfl (pc0 := 141) (pc' := 145) rfl (hb hby at_141) (by decide) (by decide) ?_
          show own_S p e below T124 m 145 #[.val (.int p0), .val (.long q1), .second, .val (.long q2), .second, .val (.long q3), .second, .val (.int p4), .val (.int k0), .val (.int k1), .val (.int k2), .val (.ref b101), .val (.ref b115), .val (.ref b117), .val (.int (own_rch (own_value k0 q1))), .val (.int (own_rch (own_value k1 q2))), .val (.int (own_rch (own_value k2 q3)))] [(.int 1), (.int 1)] _
          refine XS.icmpNo X124.here hx rfl (hb hby at_145) rfl (teq (by decide : (1 : Int32) = (1 : Int32))).2 ?_
          show own_S p e below T124 m 148 #[.val (.int p0), .val (.long q1), .second, .val (.long q2), .second, .val (.long q3), .second, .val (.int p4), .val (.int k0), .val (.int k1), .val (.int k2), .val (.ref b101), .val (.ref b115), .val (.ref b117), .val (.int (own_rch (own_value k0 q1))), .val (.int (own_rch (own_value k1 q2))), .val (.int (own_rch (own_value k2 q3)))] [] _
          refine XS.iconst X124.here hx rfl (hb hby at_148) ?_
          show own_S p e below T124 m 149 #[.val (.int p0), .val (.long q1), .second, .val (.long q2), .second, .val (.long q3), .second, .val (.int p4), .val (.int k0), .val (.int k1), .val (.int k2), .val (.ref b101), .val (.ref b115), .val (.ref b117), .val (.int (own_rch (own_value k0 q1))), .val (.int (own_rch (own_value k1 q2))), .val (.int (own_rch (own_value k2 q3)))] [(.int 1)] _
          refine XS.goto X124.here hx rfl (pc0 := 149) (pc' := 153) rfl (hb hby at_149) (by decide) (by decide) ?_
          show own_S p e below T124 m 153 #[.val (.int p0), .val (.long q1), .second, .val (.long q2), .second, .val (.long q3), .second, .val (.int p4), .val (.int k0), .val (.int k1), .val (.int k2), .val (.ref b101), .val (.ref b115), .val (.ref b117), .val (.int (own_rch (own_value k0 q1))), .val (.int (own_rch (own_value k1 q2))), .val (.int (own_rch (own_value k2 q3)))] [(.int 1)] _
          exact retN X124 hx (t := .boolean) Bd.returns (by simp) (hb hby at_153) hr
        · show Qm0 Z p0 q1 q2 q3 p4 h0 n0 _ T124.heap _
          rw [P124_0]
          exact ⟨rfl, N124⟩
set_option maxRecDepth 65536 in
set_option maxHeartbeats 40000000 in
theorem comes_1 {Post : Tables → Env → Array Value → State → Outcome → State → Prop} (hpost : ∀ tb e args s v u, (limb_1_1.after args s (.returned v) u = true ∧ limb_1_2.after args s (.returned v) u = true ∧ True) → FrameEnd s (.returned v) u (Jvm.fieldLocs frame_1_writes args s ++ Jvm.arrayLocs frame_1_arrays args s ++ Jvm.staticLocs frame_1_statics s) 16 128 → Post tb e args s (.returned v) u) :
    ArmFor flags0 classFile x code maxLocals ret World_1 tables_1 room_1 Calls_1 rest_1 Pre_1 Post := by
  intro l hfl _ _ p e ha hc hk s m args below hf hA hF happ hP
  obtain ⟨hcalls, hrest, hpre⟩ := hP
  obtain ⟨-, -, -, hnamed, -, -, -, hat⟩ := (Spec.applies_iff hf).mp happ
  obtain ⟨hg, hn⟩ := and_e (Cond.before_iff.mp (show (Jvm.Cond.and given_1 narrow_1).before args s = true from hpre))
  obtain ⟨hcount, hg0⟩ := and_e hg
  obtain ⟨hv0, hg1⟩ := and_e hg0
  obtain ⟨hv1, hg2⟩ := and_e hg1
  obtain ⟨hv2, hg3⟩ := and_e hg2
  obtain ⟨hv3, hg4⟩ := and_e hg3
  obtain ⟨w0, w1, w2, w3, w4, rfl⟩ : ∃ w0 w1 w2 w3 w4 : Value, args = #[w0, w1, w2, w3, w4] := by
    have hs : args.size = 5 := by simpa [Cond.value, given_1] using hcount
    obtain ⟨L⟩ := args
    match L, hs with
    | [w0, w1, w2, w3, w4], _ => exact ⟨w0, w1, w2, w3, w4, rfl⟩
  have hw := fun d (hd : d ∈ tables_1) => atoms_spec (ws := Jvm.Cond.code x code maxLocals ret :: tables_1) hat d (List.mem_cons_of_mem _ hd)
  have hfit : Fit s := fun {y c} hc i hi => by
    obtain ⟨ha, rfl⟩ := Array.getElem?_eq_some_iff.mp hc
    have q := List.all_eq_true.mp ((Array.all_eq_true_iff_forall_mem.mp hF) _ (Array.getElem_mem ha)) i (List.mem_range.mpr hi)
    simpa [Array.getElem?_eq_getElem hi] using q
  obtain ⟨i0, ei0⟩ := is_v hv0
  obtain rfl : w0 = (.int i0) := Option.some.inj ei0
  obtain ⟨i1, ei1⟩ := isL_v hv1
  obtain rfl : w1 = (.long i1) := Option.some.inj ei1
  obtain ⟨i2, ei2⟩ := isL_v hv2
  obtain rfl : w2 = (.long i2) := Option.some.inj ei2
  obtain ⟨i3, ei3⟩ := isL_v hv3
  obtain rfl : w3 = (.long i3) := Option.some.inj ei3
  obtain ⟨i4, ei4⟩ := is_v hg4
  obtain rfl : w4 = (.int i4) := Option.some.inj ei4
  obtain ⟨n, o, h1, h2, h3, _, L, rfl, ⟨rfl, N⟩, hq⟩ := rmm0 l s _ hw tables_1 i0 i1 i2 i3 i4 s.heap s.heap.size (Nat.le_refl _)  p e ha hc hk s m _ below hf ((Spec.applies_iff_loose hf).mp happ).1 ⟨rfl, State.Warmed39.refl s, rfl⟩ trivial
  refine ⟨n, _, h1, h2, h3, hpost _ _ _ _ _ _ ⟨Cond.after_iff.mpr rfl, Cond.after_iff.mpr (eq_i res_at (Term.int_eval (1)) rfl), trivial⟩ ⟨hq.1, hq.2.1, (hq.2.2.sift fun y hy => Or.inr (N y hy)).mono (by decide) (by decide)⟩⟩
theorem main_1_1 : Claimed_1_1 := comes_1 fun _ _ _ _ _ _ h hF => ⟨h.1, hF⟩
theorem main_1_2 : Claimed_1_2 := comes_1 fun _ _ _ _ _ _ h hF => ⟨h.2.1, hF⟩
end Jvm.Pilot.@@N@@
namespace Jvm.Pilot.@@N@@
open Jvm Jvm.ClassFile Sem Op Lib Jvm.Free Jvm.Stand Jvm.Pilot.@@N@@.Jvm.D
/-! MADE BY PROGRAM (witnessworld.py) out of the Statement's table words and the real class files: 11 classes; the members and pool entries that the words name. The judged class is class 1, her method 2. -/
namespace start1
open Jvm.ClassFile
def u (s : String) : CpInfo := .utf8 (stringToUtf16 s)
/-- a pool by its gaps: so many unusable entries, then the entry; so many at the end -/
def gap : Nat → List CpInfo → List CpInfo
  | 0, r => r
  | n + 1, r => .unusable :: gap n r
def poolList (es : List (Nat × CpInfo)) (last : Nat) : List CpInfo := es.foldr (fun e r => gap e.1 (e.2 :: r)) (gap last [])
def pool (es : List (Nat × CpInfo)) (last : Nat) : Array CpInfo := ⟨poolList es last⟩
def fileOf (pool : Array CpInfo) (this : Nat) (attrs : Array Attribute := #[]) (ms : Array MethodInfo := #[]) (fl : Nat := 33) (sup : Nat := 0) (ifs : Array Nat := #[]) (fds : Array FieldInfo := #[]) : ClassFile where
  minorVersion := 0
  majorVersion := 65
  constantPool := pool
  accessFlags := fl
  thisClass := this
  superClass := sup
  interfaces := ifs
  fields := fds
  methods := ms
  attributes := attrs
def plain (name : String) (sup : Option ClassId) : Class where
  name := name
  kind := .ordinary
  loader := none
  accessFlags := 33
  super := sup
  interfaces := #[]
  cf := none
  fields := #[]
  methods := #[]
  instanceTypes := #[]
  staticTypes := #[]
  resolved := #[]
  callSites := []
  init := .initialized
  statics := none
  mirror := none

def pool0 : Array CpInfo := pool [(5, u "<init>"), (0, u "()V"), (1, .class_ 10), (1, u "java/lang/Object")] 113

def k0c0 : Code := { maxStack := 0, maxLocals := 1, code := object_method_1_code, exceptionTable := #[], attributes := #[] }
def k0m0 : Method := { name := "<init>", desc := "()V", sig := { parameters := [], returnType := none }, accessFlags := 1, code := some k0c0 }
/-- java/lang/Object -/
def k0 : Class := { plain "java/lang/Object" none with
  accessFlags := 33
  interfaces := #[]
  cf := some (fileOf pool0 8 #[] #[{ accessFlags := 1, nameIndex := 5, descriptorIndex := 6, attributes := #[] }] 33 0 #[] #[])
  fields := #[]
  methods := #[k0m0]
  instanceTypes := #[]
  staticTypes := #[]
  resolved := Array.replicate 124 none
  statics := none }

def pool1 : Array CpInfo := pool [(2, .class_ 4), (1, u "java/lang/Object"), (0, u "<init>"), (0, u "()V"), (2, .long 9223372036854775807), (3, .double 9218868437227405311), (1, .double 9218868437227405312), (1, .methodref 18 19), (0, .class_ 20), (0, .nameAndType 21 22), (0, u "com/example/fireweed/fireweed/service/ShortestPathsReachesPinLaw"), (0, u "value"), (0, u "(IJ)D"), (0, .class_ 24), (0, u "com/example/fireweed/fireweed/service/ShortestPaths"), (0, .methodref 23 26), (0, .nameAndType 5 27), (0, u "(Lcom/example/fireweed/fireweed/service/Router;I[D[I)V"), (0, .methodref 23 29), (0, .nameAndType 30 31), (0, u "reaches"), (0, u "(I)Z"), (3, u "law"), (0, u "(IJJJI)Z")] 6

def k1m0 : Method := { name := "<init>", desc := "()V", sig := { parameters := [], returnType := none }, accessFlags := 1, code := none }
def k1c1 : Code := { maxStack := 4, maxLocals := 3, code := method_2_code, exceptionTable := #[], attributes := #[] }
def k1m1 : Method := { name := "value", desc := "(IJ)D", sig := { parameters := [.int, .long], returnType := some .double }, accessFlags := 10, code := some k1c1 }
def k1c2 : Code := { maxStack := 6, maxLocals := 17, code := code, exceptionTable := #[], attributes := #[] }
def k1m2 : Method := { name := "law", desc := "(IJJJI)Z", sig := { parameters := [.int, .long, .long, .long, .int], returnType := some .boolean }, accessFlags := 9, code := some k1c2 }
/-- com/example/fireweed/fireweed/service/ShortestPathsReachesPinLaw -/
def k1 : Class := { plain "com/example/fireweed/fireweed/service/ShortestPathsReachesPinLaw" (some 0) with
  accessFlags := 49
  interfaces := #[]
  cf := some (fileOf pool1 18 #[] #[{ accessFlags := 1, nameIndex := 5, descriptorIndex := 6, attributes := #[] }, { accessFlags := 10, nameIndex := 21, descriptorIndex := 22, attributes := #[] }, { accessFlags := 9, nameIndex := 35, descriptorIndex := 36, attributes := #[] }] 49 2 #[] #[])
  fields := #[]
  methods := #[k1m0, k1m1, k1m2]
  instanceTypes := #[]
  staticTypes := #[]
  resolved := Array.replicate 43 none
  statics := none }

def pool2 : Array CpInfo := pool [(1, .methodref 2 3), (0, .class_ 4), (0, .nameAndType 5 6), (0, u "java/lang/Object"), (0, u "<init>"), (0, u "()V"), (0, .fieldref 8 9), (0, .class_ 10), (0, .nameAndType 11 12), (0, u "com/example/fireweed/fireweed/service/ShortestPaths"), (0, u "router"), (0, u "Lcom/example/fireweed/fireweed/service/Router;"), (0, .fieldref 8 14), (0, .nameAndType 15 16), (0, u "origin"), (0, u "I"), (0, .fieldref 8 18), (0, .nameAndType 19 20), (0, u "lengthM"), (0, u "[D"), (0, .fieldref 8 22), (0, .nameAndType 23 24), (0, u "previous"), (0, u "[I"), (2, .double 9218868437227405312), (10, u "(I)Z"), (2, u "reaches"), (15, u "(Lcom/example/fireweed/fireweed/service/Router;I[D[I)V")] 26

def k2c0 : Code := { maxStack := 2, maxLocals := 5, code := prog_83_method_1_code, exceptionTable := #[], attributes := #[] }
def k2m0 : Method := { name := "<init>", desc := "(Lcom/example/fireweed/fireweed/service/Router;I[D[I)V", sig := { parameters := [(.object "com/example/fireweed/fireweed/service/Router"), .int, (.array .double), (.array .int)], returnType := none }, accessFlags := 0, code := some k2c0 }
def k2c1 : Code := { maxStack := 4, maxLocals := 2, code := prog_83_method_2_code, exceptionTable := #[], attributes := #[] }
def k2m1 : Method := { name := "reaches", desc := "(I)Z", sig := { parameters := [.int], returnType := some .boolean }, accessFlags := 1, code := some k2c1 }
/-- com/example/fireweed/fireweed/service/ShortestPaths -/
def k2 : Class := { plain "com/example/fireweed/fireweed/service/ShortestPaths" (some 0) with
  accessFlags := 49
  interfaces := #[]
  cf := some (fileOf pool2 8 #[] #[{ accessFlags := 0, nameIndex := 5, descriptorIndex := 57, attributes := #[] }, { accessFlags := 1, nameIndex := 41, descriptorIndex := 38, attributes := #[] }] 49 2 #[] #[{ accessFlags := 18, nameIndex := 11, descriptorIndex := 12, attributes := #[] }, { accessFlags := 18, nameIndex := 15, descriptorIndex := 16, attributes := #[] }, { accessFlags := 18, nameIndex := 19, descriptorIndex := 20, attributes := #[] }, { accessFlags := 18, nameIndex := 23, descriptorIndex := 24, attributes := #[] }])
  fields := #[{ name := "router", type := (.object "com/example/fireweed/fireweed/service/Router"), accessFlags := 18, slot := 0, constantValue := 0 }, { name := "origin", type := .int, accessFlags := 18, slot := 1, constantValue := 0 }, { name := "lengthM", type := (.array .double), accessFlags := 18, slot := 2, constantValue := 0 }, { name := "previous", type := (.array .int), accessFlags := 18, slot := 3, constantValue := 0 }]
  methods := #[k2m0, k2m1]
  instanceTypes := #[(.object "com/example/fireweed/fireweed/service/Router"), .int, (.array .double), (.array .int)]
  staticTypes := #[]
  resolved := Array.replicate 84 none
  statics := none }

def pool3 : Array CpInfo := pool [(1, u "java/lang/Cloneable"), (0, .class_ 1), (0, u "java/lang/Object"), (0, .class_ 3)] 3

/-- java/lang/Cloneable -/
def k3 : Class := { plain "java/lang/Cloneable" (some 0) with
  accessFlags := 1537
  interfaces := #[]
  cf := some (fileOf pool3 2 #[] #[] 1537 4 #[] #[])
  fields := #[]
  methods := #[]
  instanceTypes := #[]
  staticTypes := #[]
  resolved := Array.replicate 8 none
  statics := none }

def pool4 : Array CpInfo := pool [(1, u "java/io/Serializable"), (0, .class_ 1), (0, u "java/lang/Object"), (0, .class_ 3)] 3

/-- java/io/Serializable -/
def k4 : Class := { plain "java/io/Serializable" (some 0) with
  accessFlags := 1537
  interfaces := #[]
  cf := some (fileOf pool4 2 #[] #[] 1537 4 #[] #[])
  fields := #[]
  methods := #[]
  instanceTypes := #[]
  staticTypes := #[]
  resolved := Array.replicate 8 none
  statics := none }

/-- the primitive byte -/
def k5 : Class := { plain "byte" none with kind := .primitive 'B', accessFlags := 0x411 }
/-- [B -/
def k6 : Class := { plain "[B" (some 0) with kind := .array 5 .byte, interfaces := #[3, 4], accessFlags := 1041 }

/-- the primitive double -/
def k7 : Class := { plain "double" none with kind := .primitive 'D', accessFlags := 0x411 }
/-- [D -/
def k8 : Class := { plain "[D" (some 0) with kind := .array 7 .double, interfaces := #[3, 4], accessFlags := 1041 }

/-- the primitive int -/
def k9 : Class := { plain "int" none with kind := .primitive 'I', accessFlags := 0x411 }
/-- [I -/
def k10 : Class := { plain "[I" (some 0) with kind := .array 9 .int, interfaces := #[3, 4], accessFlags := 1041 }

def heap : Heap := #[]
def classes : Array Class := #[k0, k1, k2, k3, k4, k5, k6, k7, k8, k9, k10]
def interned : List (Array UInt16 × Addr) := []
def slotsUsed : Nat := 0
def theMethod : MethodId := ⟨1, 2⟩
def args0 : Array Value := #[.int 27, .long 5, .long 6, .long 7, .int 3]
def aboutOver (below : List Frame) : State where
  vm := { classes := classes, interned := interned.toArray }
  heap := heap
  slotsUsed := slotsUsed
  threads := #[{ frames := .invoking theMethod args0 :: below }]
def below0 : List Frame := [.native { method := ⟨0, 0⟩, args := #[] }]
def about1 : State := aboutOver below0
def p0 : Program := .bare "" "" ""
def e0 : Env := launch0.env 0 0 0
theorem w_frames : about1.frames = Frame.invoking theMethod args0 :: below0 := rfl
set_option maxRecDepth 65536 in
theorem w_args : argsFit about1.vm theMethod args0 = true := by decide +kernel
set_option maxRecDepth 65536 in
theorem w_heap : heapFits about1 = true := by decide +kernel
set_option maxRecDepth 65536 in
theorem w_runnable : about1.curStatus? = some .runnable := by decide +kernel
set_option maxRecDepth 65536 in
theorem w_alone : about1.alone = true := by decide +kernel
set_option maxRecDepth 65536 in
theorem w_named : about1.methodNamed? x = some theMethod := by decide +kernel
set_option maxRecDepth 65536 in
theorem w_hears : about1.hears theMethod below0 = true := by decide +kernel
set_option maxRecDepth 65536 in
theorem w_ripe : about1.ripe theMethod args0 below0 = true := by decide +kernel
theorem w_running : about1.status = .running := rfl
set_option maxRecDepth 65536 in
theorem w_room : about1.hasRoom e0.platform room_1 = true :=
  launch0.hasRoom_least _ room_1 (by decide +kernel) (by decide +kernel) (by decide +kernel) (by decide +kernel) (by decide +kernel) (by decide +kernel)
theorem allAtoms_all (ts : List Jvm.Cond) (a : Array Jvm.Value) (st : Jvm.State) : (allAtoms ts).before a st = ts.all (fun c => c.before a st) := by
  induction ts with
  | nil => rfl
  | cons c t ih =>
    show (Jvm.Cond.and c (allAtoms t)).before a st = _
    rw [Jvm.Cond.before_and, ih, List.all_cons]
def words1 : List Jvm.Cond := Jvm.Cond.code x code maxLocals ret :: tables_1
/-- a 'code' word, met by the world's own term for the bytes: nothing is compared byte by byte -/
theorem code_word {y : MethodName} {bytes : ByteArray} {mx : Nat} {rt : Option FieldType} {a : Array Value} {s : State} {m : MethodId} {meth : Method} {c : Code} (h1 : s.methodNamed? y = some m) (h2 : s.vm.method? m = some meth) (h3 : meth.code = some c) (h4 : c.code = bytes)
    (h5 : (c.maxLocals == mx && c.exceptionTable.isEmpty && decide (c.maxStack ≤ mostOperands) && decide (meth.sig.returnType = rt) && !meth.locks && decide (parseMethodDescriptor y.desc = some meth.sig)) = true) : (Jvm.Cond.code y bytes mx rt).before a s = true := by
  simp only [Bool.and_eq_true, beq_iff_eq, Bool.not_eq_true', decide_eq_true_eq] at h5
  obtain ⟨⟨⟨⟨⟨g1, g2⟩, g3⟩, g4⟩, g5⟩, g6⟩ := h5
  simp [Cond.before, Cond.holds, Cond.value, h1, h2, h3, h4, g1, g2, g3, g4, g5, g6]
def isCode : Jvm.Cond → Bool
  | .code _ _ _ _ => true
  | _ => false
theorem all_split {L : List Jvm.Cond} {P : Jvm.Cond → Bool} (h1 : L.all (fun c => isCode c || P c) = true) (h2 : ∀ c ∈ L.filter isCode, P c = true) : L.all P = true := by
  refine List.all_eq_true.mpr fun c hc => ?_
  have h := List.all_eq_true.mp h1 c hc
  rcases Bool.eq_false_or_eq_true (isCode c) with hi | hi
  · exact h2 c (List.mem_filter.mpr ⟨hc, hi⟩)
  · simpa [hi] using h
set_option maxRecDepth 65536 in
theorem w_c0 : (Jvm.Cond.code x code maxLocals ret).before args0 about1 = true := code_word (m := ⟨1, 2⟩) (meth := k1m2) (c := k1c2) (by decide +kernel) rfl rfl rfl (by decide +kernel)
set_option maxRecDepth 65536 in
theorem w_c1 : (Jvm.Cond.code ({ cls := "com/example/fireweed/fireweed/service/ShortestPathsReachesPinLaw", name := "value", desc := "(IJ)D" } : Jvm.MethodName) method_2_code (3 : Nat) (Option.some Jvm.ClassFile.FieldType.double)).before args0 about1 = true := code_word (m := ⟨1, 1⟩) (meth := k1m1) (c := k1c1) (by decide +kernel) rfl rfl rfl (by decide +kernel)
set_option maxRecDepth 65536 in
theorem w_c2 : (Jvm.Cond.code ({ cls := "com/example/fireweed/fireweed/service/ShortestPaths", name := "<init>", desc := "(Lcom/example/fireweed/fireweed/service/Router;I[D[I)V" } : Jvm.MethodName) prog_83_method_1_code (5 : Nat) (Option.none : Option Jvm.ClassFile.FieldType)).before args0 about1 = true := code_word (m := ⟨2, 0⟩) (meth := k2m0) (c := k2c0) (by decide +kernel) rfl rfl rfl (by decide +kernel)
set_option maxRecDepth 65536 in
theorem w_c3 : (Jvm.Cond.code ({ cls := "java/lang/Object", name := "<init>", desc := "()V" } : Jvm.MethodName) object_method_1_code (1 : Nat) (Option.none : Option Jvm.ClassFile.FieldType)).before args0 about1 = true := code_word (m := ⟨0, 0⟩) (meth := k0m0) (c := k0c0) (by decide +kernel) rfl rfl rfl (by decide +kernel)
set_option maxRecDepth 65536 in
theorem w_c4 : (Jvm.Cond.code ({ cls := "com/example/fireweed/fireweed/service/ShortestPaths", name := "reaches", desc := "(I)Z" } : Jvm.MethodName) prog_83_method_2_code (2 : Nat) (Option.some Jvm.ClassFile.FieldType.boolean)).before args0 about1 = true := code_word (m := ⟨2, 1⟩) (meth := k2m1) (c := k2c1) (by decide +kernel) rfl rfl rfl (by decide +kernel)
def codes1 : List Jvm.Cond := [Jvm.Cond.code x code maxLocals ret, Jvm.Cond.code ({ cls := "com/example/fireweed/fireweed/service/ShortestPathsReachesPinLaw", name := "value", desc := "(IJ)D" } : Jvm.MethodName) method_2_code (3 : Nat) (Option.some Jvm.ClassFile.FieldType.double), Jvm.Cond.code ({ cls := "com/example/fireweed/fireweed/service/ShortestPaths", name := "<init>", desc := "(Lcom/example/fireweed/fireweed/service/Router;I[D[I)V" } : Jvm.MethodName) prog_83_method_1_code (5 : Nat) (Option.none : Option Jvm.ClassFile.FieldType), Jvm.Cond.code ({ cls := "java/lang/Object", name := "<init>", desc := "()V" } : Jvm.MethodName) object_method_1_code (1 : Nat) (Option.none : Option Jvm.ClassFile.FieldType), Jvm.Cond.code ({ cls := "com/example/fireweed/fireweed/service/ShortestPaths", name := "reaches", desc := "(I)Z" } : Jvm.MethodName) prog_83_method_2_code (2 : Nat) (Option.some Jvm.ClassFile.FieldType.boolean)]
set_option maxRecDepth 65536 in
theorem codes_eq : words1.filter isCode = codes1 := rfl
theorem w_codes : ∀ c ∈ words1.filter isCode, c.before args0 about1 = true := by
  rw [codes_eq]
  intro c hc
  simp only [codes1, List.mem_cons, List.not_mem_nil, or_false] at hc
  rcases hc with rfl | rfl | rfl | rfl | rfl
  · exact w_c0
  · exact w_c1
  · exact w_c2
  · exact w_c3
  · exact w_c4
set_option maxRecDepth 65536 in
theorem w_t1 : (words1.take 24).all (fun c => isCode c || c.before args0 about1) = true := by decide +kernel
set_option maxRecDepth 65536 in
theorem w_t2 : (words1.drop 24).all (fun c => isCode c || c.before args0 about1) = true := by decide +kernel
theorem w_tables : (allAtoms (Jvm.Cond.code x code maxLocals ret :: tables_1)).before args0 about1 = true := by
  rw [allAtoms_all]
  show words1.all (fun c => c.before args0 about1) = true
  refine all_split ?_ w_codes
  rw [← List.take_append_drop 24 words1, List.all_append, w_t1, w_t2]
  rfl
set_option maxRecDepth 65536 in
theorem w_case : (Jvm.Cond.and given_1 narrow_1).before args0 about1 = true := by decide +kernel
theorem w_applies : (headSpec (Jvm.Cond.code x code maxLocals ret :: tables_1) room_1).applies x e0.platform about1 = true :=
  (Spec.applies_iff w_frames).mpr ⟨w_running, w_runnable, w_alone, w_named, w_hears, w_ripe, w_room, w_tables⟩
theorem atStart : AtStart classFile x code maxLocals ret World_1 tables_1 room_1 Calls_1 rest_1 Pre_1 launch0 p0 e0 about1 theMethod args0 below0 :=
  ⟨lists_1, trivial, launch0.admits_env _ _ _, launch0.least_env, fairChoices_fair.cas, fairChoices_fair.clock, w_frames, w_args, w_heap, w_applies, trivial, trivial, w_case⟩
end start1
theorem witness_1 : WitnessClaimed_1 := ⟨start1.p0, start1.e0, start1.about1, start1.theMethod, start1.args0, start1.below0, start1.atStart⟩
end Jvm.Pilot.@@N@@
