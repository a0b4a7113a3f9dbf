import JvmDerived
import JvmDerived.Pilot.@@N@@Statement
import JvmDerived.Pilot.@@N@@Code
set_option linter.unusedVariables false
set_option linter.unusedSimpArgs false
namespace Jvm.Pilot.@@N@@
open Jvm Jvm.ClassFile Sem Op Lib Jvm.Free Jvm.Stand Jvm.LawKit Jvm.RoadKit Bundle Jvm.Free.Fl Jvm.Pilot.@@N@@.Jvm.D
theorem own_w {a0 : Array Value} {Z : State} (hw : ∀ d ∈ tables_1, d.before a0 Z = true) (i : Nat) {d : Jvm.Cond} (h : tables_1[i]? = some d) : d.before a0 Z = true := hw _ (List.mem_of_getElem? h)
abbrev own_S (p : Program) (e : Env) (below : List Frame) (T : State) (m : MethodId) (pc : Nat) (Ls : Array Slot) (st : List Value) (t : State) : Prop := Steps p.tables e below (T.setTop (mkF m pc Ls st)) t
abbrev oI (x : Int32) : Slot := .val (.int x)
abbrev oJ (x : Int64) : Slot := .val (.long x)
abbrev oD (x : UInt64) : Slot := .val (.double x)
abbrev oR (x : Addr) : Slot := .val (.ref x)
abbrev oU : Slot := .unset
abbrev oV : Slot := .second
section Re
variable {tb : Tables} {e : Env} {below : List Frame} {T target : State} {m : MethodId} {pc : Nat} {Ls : Array Slot} {rest : List Value}
theorem reI {x y : Int32} (h : x = y) (k : Steps tb e below (T.setTop (mkF m pc Ls (.int y :: rest))) target) : Steps tb e below (T.setTop (mkF m pc Ls (.int x :: rest))) target := by rw [h]; exact k
theorem reJ {x y : Int64} (h : x = y) (k : Steps tb e below (T.setTop (mkF m pc Ls (.long y :: rest))) target) : Steps tb e below (T.setTop (mkF m pc Ls (.long x :: rest))) target := by rw [h]; exact k
theorem reD {x y : UInt64} (h : x = y) (k : Steps tb e below (T.setTop (mkF m pc Ls (.double y :: rest))) target) : Steps tb e below (T.setTop (mkF m pc Ls (.double x :: rest))) target := by rw [h]; exact k
theorem re2I {v : Value} {x y : Int32} (h : x = y) (k : Steps tb e below (T.setTop (mkF m pc Ls (v :: .int y :: rest))) target) : Steps tb e below (T.setTop (mkF m pc Ls (v :: .int x :: rest))) target := by rw [h]; exact k
theorem own_nnl {e v : UInt64} (h : e = v) (hv : NoNaN64 v) : NoNaN64 e := h ▸ hv
end Re
section OwnInt
theorem own_lmul {x y : Int64} {A B : Nat} (hx : x.toInt.natAbs ≤ A) (hy : y.toInt.natAbs ≤ B) (h : A * B < 2 ^ 62) : (x * y).toInt = x.toInt * y.toInt := by
  have hb : (x.toInt * y.toInt).natAbs ≤ A * B := by rw [Int.natAbs_mul]; exact Nat.mul_le_mul hx hy
  rw [Int64.toInt_mul]; exact Int.bmod_eq_of_le (by omega) (by omega)
theorem own_ladd {x y : Int64} {A B : Nat} (hx : x.toInt.natAbs ≤ A) (hy : y.toInt.natAbs ≤ B) (h : A + B < 2 ^ 62) : (x + y).toInt = x.toInt + y.toInt := by
  rw [Int64.toInt_add]; exact Int.bmod_eq_of_le (by omega) (by omega)
theorem own_lsub {x y : Int64} {A B : Nat} (hx : x.toInt.natAbs ≤ A) (hy : y.toInt.natAbs ≤ B) (h : A + B < 2 ^ 62) : (x - y).toInt = x.toInt - y.toInt := by
  rw [Int64.toInt_sub]; exact Int.bmod_eq_of_le (by omega) (by omega)
theorem own_maskL {x m : Int64} {k : Nat} (hk : k ≤ 63) (hm : m.toBitVec.toNat = 2 ^ k - 1) : 0 ≤ (x &&& m).toInt ∧ (x &&& m).toInt < ((2 ^ k : Nat) : Int) := by
  rw [c_maskL x m k hk hm]
  have p : (0 : Int) < ((2 ^ k : Nat) : Int) := by have := Nat.two_pow_pos k; omega
  exact ⟨Int.emod_nonneg _ (by omega), Int.emod_lt_of_pos _ p⟩
theorem own_maskI {x m : Int32} {k : Nat} (hk : k ≤ 31) (hm : m.toBitVec.toNat = 2 ^ k - 1) : 0 ≤ (x &&& m).toInt ∧ (x &&& m).toInt < ((2 ^ k : Nat) : Int) := by
  rw [c_mask x m k hk hm]
  have p : (0 : Int) < ((2 ^ k : Nat) : Int) := by have := Nat.two_pow_pos k; omega
  exact ⟨Int.emod_nonneg _ (by omega), Int.emod_lt_of_pos _ p⟩
theorem own_cases32 {x : Int32} {n : Nat} (h0 : 0 ≤ x.toInt) (h1 : x.toInt < (n : Int)) : ∃ k : Nat, k < n ∧ x = Int32.ofNat k := by
  refine ⟨x.toInt.toNat, by omega, ?_⟩
  apply Int32.toInt_inj.mp
  have hx := x.toInt_lt
  rw [Int32.toInt_ofNat_of_lt (by omega)]
  omega
theorem own_irem {x z m : Int32} (h : z = x % m) {M : Int} (hm : m.toInt = M) (hM : 0 < M) : -M < z.toInt ∧ z.toInt < M ∧ (0 ≤ x.toInt → 0 ≤ z.toInt) := by
  have q := c_irem x m M hm
  rcases (by omega : x.toInt < 0 ∨ 0 ≤ x.toInt) with a | a
  · have := q.2 a; rw [← h] at this
    have b1 := Int.emod_nonneg (-x.toInt) (show M ≠ 0 by omega); have b2 := Int.emod_lt_of_pos (-x.toInt) hM
    omega
  · have := q.1 a; rw [← h] at this
    have b1 := Int.emod_nonneg x.toInt (show M ≠ 0 by omega); have b2 := Int.emod_lt_of_pos x.toInt hM
    omega
theorem own_ple {j k : Nat} (h : j ≤ k) : (2 : Int) ^ j ≤ 2 ^ k := by
  have h1 : ((2 ^ j : Nat) : Int) = (2 : Int) ^ j := Int.natCast_pow 2 j
  have h2 : ((2 ^ k : Nat) : Int) = (2 : Int) ^ k := Int.natCast_pow 2 k
  have h3 : 2 ^ j ≤ 2 ^ k := Nat.pow_le_pow_right (by decide) h
  rw [← h1, ← h2]; omega
end OwnInt
theorem own_asm {x y : Int32} (h : x < y) : ¬ y < x := fun g => by have h1 := Int32.lt_iff_toInt_lt.mp h; have h2 := Int32.lt_iff_toInt_lt.mp g; omega
theorem own_irr {x : Int32} : ¬ x < x := fun g => by have h1 := Int32.lt_iff_toInt_lt.mp g; omega
theorem own_k4 (x : Int32) : (x &&& (3 : Int32)) = (0 : Int32) ∨ (x &&& (3 : Int32)) = (1 : Int32) ∨ (x &&& (3 : Int32)) = (2 : Int32) ∨ (x &&& (3 : Int32)) = (3 : Int32) := by
  have b := own_maskI (x := x) (m := 3) (k := 2) (by decide) (by decide)
  obtain ⟨k, hk, e⟩ := own_cases32 (n := 4) b.1 b.2
  rw [e]
  have H : ∀ k : Fin 4, Int32.ofNat k.1 = (0 : Int32) ∨ Int32.ofNat k.1 = (1 : Int32) ∨ Int32.ofNat k.1 = (2 : Int32) ∨ Int32.ofNat k.1 = (3 : Int32) := by decide
  exact H ⟨k, hk⟩
theorem own_rem1 (x : Int32) : ((x &&& (2147483647 : Int32)) % (1 : Int32)) = (0 : Int32) := by
  have b := own_maskI (x := x) (m := 2147483647) (k := 31) (by decide) (by decide)
  have r := own_irem (x := x &&& (2147483647 : Int32)) (m := 1) rfl (M := 1) (by decide) (by decide)
  obtain ⟨k, hk, e⟩ := own_cases32 (n := 1) (r.2.2 b.1) r.2.1
  rw [e]
  have H : ∀ k : Fin 1, Int32.ofNat k.1 = (0 : Int32) := by decide
  exact H ⟨k, hk⟩
theorem own_rem2 (x : Int32) : ((x &&& (2147483647 : Int32)) % (2 : Int32)) = (0 : Int32) ∨ ((x &&& (2147483647 : Int32)) % (2 : Int32)) = (1 : Int32) := by
  have b := own_maskI (x := x) (m := 2147483647) (k := 31) (by decide) (by decide)
  have r := own_irem (x := x &&& (2147483647 : Int32)) (m := 2) rfl (M := 2) (by decide) (by decide)
  obtain ⟨k, hk, e⟩ := own_cases32 (n := 2) (r.2.2 b.1) r.2.1
  rw [e]
  have H : ∀ k : Fin 2, Int32.ofNat k.1 = (0 : Int32) ∨ Int32.ofNat k.1 = (1 : Int32) := by decide
  exact H ⟨k, hk⟩
theorem own_rem3 (x : Int32) : ((x &&& (2147483647 : Int32)) % (3 : Int32)) = (0 : Int32) ∨ ((x &&& (2147483647 : Int32)) % (3 : Int32)) = (1 : Int32) ∨ ((x &&& (2147483647 : Int32)) % (3 : Int32)) = (2 : Int32) := by
  have b := own_maskI (x := x) (m := 2147483647) (k := 31) (by decide) (by decide)
  have r := own_irem (x := x &&& (2147483647 : Int32)) (m := 3) rfl (M := 3) (by decide) (by decide)
  obtain ⟨k, hk, e⟩ := own_cases32 (n := 3) (r.2.2 b.1) r.2.1
  rw [e]
  have H : ∀ k : Fin 3, Int32.ofNat k.1 = (0 : Int32) ∨ Int32.ofNat k.1 = (1 : Int32) ∨ Int32.ofNat k.1 = (2 : Int32) := by decide
  exact H ⟨k, hk⟩
theorem own_rem4 (x : Int32) : ((x &&& (2147483647 : Int32)) % (4 : Int32)) = (0 : Int32) ∨ ((x &&& (2147483647 : Int32)) % (4 : Int32)) = (1 : Int32) ∨ ((x &&& (2147483647 : Int32)) % (4 : Int32)) = (2 : Int32) ∨ ((x &&& (2147483647 : Int32)) % (4 : Int32)) = (3 : Int32) := by
  have b := own_maskI (x := x) (m := 2147483647) (k := 31) (by decide) (by decide)
  have r := own_irem (x := x &&& (2147483647 : Int32)) (m := 4) rfl (M := 4) (by decide) (by decide)
  obtain ⟨k, hk, e⟩ := own_cases32 (n := 4) (r.2.2 b.1) r.2.1
  rw [e]
  have H : ∀ k : Fin 4, Int32.ofNat k.1 = (0 : Int32) ∨ Int32.ofNat k.1 = (1 : Int32) ∨ Int32.ofNat k.1 = (2 : Int32) ∨ Int32.ofNat k.1 = (3 : Int32) := by decide
  exact H ⟨k, hk⟩
theorem own_rem5 (x : Int32) : ((x &&& (2147483647 : Int32)) % (5 : Int32)) = (0 : Int32) ∨ ((x &&& (2147483647 : Int32)) % (5 : Int32)) = (1 : Int32) ∨ ((x &&& (2147483647 : Int32)) % (5 : Int32)) = (2 : Int32) ∨ ((x &&& (2147483647 : Int32)) % (5 : Int32)) = (3 : Int32) ∨ ((x &&& (2147483647 : Int32)) % (5 : Int32)) = (4 : Int32) := by
  have b := own_maskI (x := x) (m := 2147483647) (k := 31) (by decide) (by decide)
  have r := own_irem (x := x &&& (2147483647 : Int32)) (m := 5) rfl (M := 5) (by decide) (by decide)
  obtain ⟨k, hk, e⟩ := own_cases32 (n := 5) (r.2.2 b.1) r.2.1
  rw [e]
  have H : ∀ k : Fin 5, Int32.ofNat k.1 = (0 : Int32) ∨ Int32.ofNat k.1 = (1 : Int32) ∨ Int32.ofNat k.1 = (2 : Int32) ∨ Int32.ofNat k.1 = (3 : Int32) ∨ Int32.ofNat k.1 = (4 : Int32) := by decide
  exact H ⟨k, hk⟩
theorem own_step {x m : Int32} {L : Int} (hx1 : -L ≤ x.toInt) (hx2 : x.toInt ≤ L) (hL : L ≤ 1073741824) (b1 : 0 ≤ m.toInt) (b2 : m.toInt < 256) : (x + m + (1 : Int32)).toInt = x.toInt + m.toInt + 1 := by
  have e : (x + m).toInt = x.toInt + m.toInt := by rw [Int32.toInt_add]; exact Int.bmod_eq_of_le (by omega) (by omega)
  rw [Int32.toInt_add, e, show (1 : Int32).toInt = 1 by decide]; exact Int.bmod_eq_of_le (by omega) (by omega)
def own_HFT (a b : Int32) : Prop := (a = (0 : Int32) ∧ b = (0 : Int32)) ∨ (a = (0 : Int32) ∧ b = (1 : Int32)) ∨ (a = (0 : Int32) ∧ b = (2 : Int32)) ∨ (a = (0 : Int32) ∧ b = (3 : Int32)) ∨ (a = (0 : Int32) ∧ b = (4 : Int32)) ∨ (a = (1 : Int32) ∧ b = (1 : Int32)) ∨ (a = (1 : Int32) ∧ b = (2 : Int32)) ∨ (a = (1 : Int32) ∧ b = (3 : Int32)) ∨ (a = (1 : Int32) ∧ b = (4 : Int32)) ∨ (a = (2 : Int32) ∧ b = (2 : Int32)) ∨ (a = (2 : Int32) ∧ b = (3 : Int32)) ∨ (a = (2 : Int32) ∧ b = (4 : Int32)) ∨ (a = (3 : Int32) ∧ b = (3 : Int32)) ∨ (a = (3 : Int32) ∧ b = (4 : Int32))
def own_HC (a b key ix pi x0 x1 x2 x3 : Int32) : Prop := (a = (0 : Int32) ∧ b = (1 : Int32) ∧ key = x0 ∧ ix = (0 : Int32) ∧ pi = (0 : Int32)) ∨ (a = (0 : Int32) ∧ b = (2 : Int32) ∧ key = x0 ∧ ix = (0 : Int32) ∧ pi = (0 : Int32)) ∨ (a = (0 : Int32) ∧ b = (2 : Int32) ∧ key = x1 ∧ ix = (1 : Int32) ∧ pi = (1 : Int32)) ∨ (a = (0 : Int32) ∧ b = (3 : Int32) ∧ key = x0 ∧ ix = (0 : Int32) ∧ pi = (0 : Int32)) ∨ (a = (0 : Int32) ∧ b = (3 : Int32) ∧ key = x1 ∧ ix = (1 : Int32) ∧ pi = (1 : Int32)) ∨ (a = (0 : Int32) ∧ b = (3 : Int32) ∧ key = x2 ∧ ix = (2 : Int32) ∧ pi = (2 : Int32)) ∨ (a = (0 : Int32) ∧ b = (4 : Int32) ∧ key = x0 ∧ ix = (0 : Int32) ∧ pi = (0 : Int32)) ∨ (a = (0 : Int32) ∧ b = (4 : Int32) ∧ key = x1 ∧ ix = (1 : Int32) ∧ pi = (1 : Int32)) ∨ (a = (0 : Int32) ∧ b = (4 : Int32) ∧ key = x2 ∧ ix = (2 : Int32) ∧ pi = (2 : Int32)) ∨ (a = (0 : Int32) ∧ b = (4 : Int32) ∧ key = x3 ∧ ix = (3 : Int32) ∧ pi = (3 : Int32)) ∨ (a = (1 : Int32) ∧ b = (2 : Int32) ∧ key = x1 ∧ ix = (1 : Int32) ∧ pi = (0 : Int32)) ∨ (a = (1 : Int32) ∧ b = (3 : Int32) ∧ key = x1 ∧ ix = (1 : Int32) ∧ pi = (0 : Int32)) ∨ (a = (1 : Int32) ∧ b = (3 : Int32) ∧ key = x2 ∧ ix = (2 : Int32) ∧ pi = (1 : Int32)) ∨ (a = (1 : Int32) ∧ b = (4 : Int32) ∧ key = x1 ∧ ix = (1 : Int32) ∧ pi = (0 : Int32)) ∨ (a = (1 : Int32) ∧ b = (4 : Int32) ∧ key = x2 ∧ ix = (2 : Int32) ∧ pi = (1 : Int32)) ∨ (a = (1 : Int32) ∧ b = (4 : Int32) ∧ key = x3 ∧ ix = (3 : Int32) ∧ pi = (2 : Int32)) ∨ (a = (2 : Int32) ∧ b = (3 : Int32) ∧ key = x2 ∧ ix = (2 : Int32) ∧ pi = (0 : Int32)) ∨ (a = (2 : Int32) ∧ b = (4 : Int32) ∧ key = x2 ∧ ix = (2 : Int32) ∧ pi = (0 : Int32)) ∨ (a = (2 : Int32) ∧ b = (4 : Int32) ∧ key = x3 ∧ ix = (3 : Int32) ∧ pi = (1 : Int32)) ∨ (a = (3 : Int32) ∧ b = (4 : Int32) ∧ key = x3 ∧ ix = (3 : Int32) ∧ pi = (0 : Int32))
def own_pick (j x0 x1 x2 x3 : Int32) : Int32 := if j = (0 : Int32) then x0 else if j = (1 : Int32) then x1 else if j = (2 : Int32) then x2 else x3
theorem own_HCf {a b key ix pi x0 x1 x2 x3 : Int32} (h : own_HC a b key ix pi x0 x1 x2 x3) : ¬ (b < a) ∧ ¬ (a < (0 : Int32)) ∧ ¬ ((4 : Int32) < b) ∧ ¬ (ix < (0 : Int32)) ∧ ix - a = pi ∧ (a + pi) = ix ∧ (¬ ix < 0 ∧ ix < (4 : Int32)) := by
  unfold own_HC at h
  rcases h with ⟨rfl, rfl, rfl, rfl, rfl⟩ | ⟨rfl, rfl, rfl, rfl, rfl⟩ | ⟨rfl, rfl, rfl, rfl, rfl⟩ | ⟨rfl, rfl, rfl, rfl, rfl⟩ | ⟨rfl, rfl, rfl, rfl, rfl⟩ | ⟨rfl, rfl, rfl, rfl, rfl⟩ | ⟨rfl, rfl, rfl, rfl, rfl⟩ | ⟨rfl, rfl, rfl, rfl, rfl⟩ | ⟨rfl, rfl, rfl, rfl, rfl⟩ | ⟨rfl, rfl, rfl, rfl, rfl⟩ | ⟨rfl, rfl, rfl, rfl, rfl⟩ | ⟨rfl, rfl, rfl, rfl, rfl⟩ | ⟨rfl, rfl, rfl, rfl, rfl⟩ | ⟨rfl, rfl, rfl, rfl, rfl⟩ | ⟨rfl, rfl, rfl, rfl, rfl⟩ | ⟨rfl, rfl, rfl, rfl, rfl⟩ | ⟨rfl, rfl, rfl, rfl, rfl⟩ | ⟨rfl, rfl, rfl, rfl, rfl⟩ | ⟨rfl, rfl, rfl, rfl, rfl⟩ | ⟨rfl, rfl, rfl, rfl, rfl⟩
  all_goals decide
theorem own_HCat {a b key ix pi x0 x1 x2 x3 : Int32} (h : own_HC a b key ix pi x0 x1 x2 x3) : [Value.int x0, .int x1, .int x2, .int x3].getD (ix.toNatClampNeg) (.int 0) = .int key := by
  unfold own_HC at h
  rcases h with ⟨rfl, rfl, rfl, rfl, rfl⟩ | ⟨rfl, rfl, rfl, rfl, rfl⟩ | ⟨rfl, rfl, rfl, rfl, rfl⟩ | ⟨rfl, rfl, rfl, rfl, rfl⟩ | ⟨rfl, rfl, rfl, rfl, rfl⟩ | ⟨rfl, rfl, rfl, rfl, rfl⟩ | ⟨rfl, rfl, rfl, rfl, rfl⟩ | ⟨rfl, rfl, rfl, rfl, rfl⟩ | ⟨rfl, rfl, rfl, rfl, rfl⟩ | ⟨rfl, rfl, rfl, rfl, rfl⟩ | ⟨rfl, rfl, rfl, rfl, rfl⟩ | ⟨rfl, rfl, rfl, rfl, rfl⟩ | ⟨rfl, rfl, rfl, rfl, rfl⟩ | ⟨rfl, rfl, rfl, rfl, rfl⟩ | ⟨rfl, rfl, rfl, rfl, rfl⟩ | ⟨rfl, rfl, rfl, rfl, rfl⟩ | ⟨rfl, rfl, rfl, rfl, rfl⟩ | ⟨rfl, rfl, rfl, rfl, rfl⟩ | ⟨rfl, rfl, rfl, rfl, rfl⟩ | ⟨rfl, rfl, rfl, rfl, rfl⟩
  all_goals rfl
theorem own_combo (p2 p3 : Int32) : ∃ fr sz : Int32, fr = (p2 &&& (3 : Int32)) ∧ sz = ((p3 &&& (2147483647 : Int32)) % ((5 : Int32) - fr)) ∧ ¬ (5 : Int32) - fr = 0 ∧ own_HFT fr (fr + sz) ∧ (¬ sz = 0 → ∀ p4 x0 x1 x2 x3 : Int32, own_HC fr (fr + sz) (own_pick (fr + ((p4 &&& (2147483647 : Int32)) % sz)) x0 x1 x2 x3) (fr + ((p4 &&& (2147483647 : Int32)) % sz)) ((p4 &&& (2147483647 : Int32)) % sz) x0 x1 x2 x3) := by
  refine ⟨_, _, rfl, rfl, ?_⟩
  rcases own_k4 p2 with hk | hk | hk | hk
  · rw [hk, show (5 : Int32) - (0 : Int32) = (5 : Int32) by decide]
    refine ⟨by decide, ?_⟩
    rcases own_rem5 p3 with hs | hs | hs | hs | hs
    · rw [hs, show (0 : Int32) + (0 : Int32) = (0 : Int32) by decide]
      refine ⟨by unfold own_HFT; decide, fun hz p4 x0 x1 x2 x3 => ?_⟩
      exact absurd rfl hz
    · rw [hs, show (0 : Int32) + (1 : Int32) = (1 : Int32) by decide]
      refine ⟨by unfold own_HFT; decide, fun hz p4 x0 x1 x2 x3 => ?_⟩
      rcases own_rem1 p4 with hi
      · rw [hi, show (0 : Int32) + (0 : Int32) = (0 : Int32) by decide]
        unfold own_HC own_pick
        exact (Or.inl ⟨rfl, rfl, rfl, rfl, rfl⟩)
    · rw [hs, show (0 : Int32) + (2 : Int32) = (2 : Int32) by decide]
      refine ⟨by unfold own_HFT; decide, fun hz p4 x0 x1 x2 x3 => ?_⟩
      rcases own_rem2 p4 with hi | hi
      · rw [hi, show (0 : Int32) + (0 : Int32) = (0 : Int32) by decide]
        unfold own_HC own_pick
        exact Or.inr ((Or.inl ⟨rfl, rfl, rfl, rfl, rfl⟩))
      · rw [hi, show (0 : Int32) + (1 : Int32) = (1 : Int32) by decide]
        unfold own_HC own_pick
        exact Or.inr (Or.inr ((Or.inl ⟨rfl, rfl, rfl, rfl, rfl⟩)))
    · rw [hs, show (0 : Int32) + (3 : Int32) = (3 : Int32) by decide]
      refine ⟨by unfold own_HFT; decide, fun hz p4 x0 x1 x2 x3 => ?_⟩
      rcases own_rem3 p4 with hi | hi | hi
      · rw [hi, show (0 : Int32) + (0 : Int32) = (0 : Int32) by decide]
        unfold own_HC own_pick
        exact Or.inr (Or.inr (Or.inr ((Or.inl ⟨rfl, rfl, rfl, rfl, rfl⟩))))
      · rw [hi, show (0 : Int32) + (1 : Int32) = (1 : Int32) by decide]
        unfold own_HC own_pick
        exact Or.inr (Or.inr (Or.inr (Or.inr ((Or.inl ⟨rfl, rfl, rfl, rfl, rfl⟩)))))
      · rw [hi, show (0 : Int32) + (2 : Int32) = (2 : Int32) by decide]
        unfold own_HC own_pick
        exact Or.inr (Or.inr (Or.inr (Or.inr (Or.inr ((Or.inl ⟨rfl, rfl, rfl, rfl, rfl⟩))))))
    · rw [hs, show (0 : Int32) + (4 : Int32) = (4 : Int32) by decide]
      refine ⟨by unfold own_HFT; decide, fun hz p4 x0 x1 x2 x3 => ?_⟩
      rcases own_rem4 p4 with hi | hi | hi | hi
      · rw [hi, show (0 : Int32) + (0 : Int32) = (0 : Int32) by decide]
        unfold own_HC own_pick
        exact Or.inr (Or.inr (Or.inr (Or.inr (Or.inr (Or.inr ((Or.inl ⟨rfl, rfl, rfl, rfl, rfl⟩)))))))
      · rw [hi, show (0 : Int32) + (1 : Int32) = (1 : Int32) by decide]
        unfold own_HC own_pick
        exact Or.inr (Or.inr (Or.inr (Or.inr (Or.inr (Or.inr (Or.inr ((Or.inl ⟨rfl, rfl, rfl, rfl, rfl⟩))))))))
      · rw [hi, show (0 : Int32) + (2 : Int32) = (2 : Int32) by decide]
        unfold own_HC own_pick
        exact Or.inr (Or.inr (Or.inr (Or.inr (Or.inr (Or.inr (Or.inr (Or.inr ((Or.inl ⟨rfl, rfl, rfl, rfl, rfl⟩)))))))))
      · rw [hi, show (0 : Int32) + (3 : Int32) = (3 : Int32) by decide]
        unfold own_HC own_pick
        exact Or.inr (Or.inr (Or.inr (Or.inr (Or.inr (Or.inr (Or.inr (Or.inr (Or.inr ((Or.inl ⟨rfl, rfl, rfl, rfl, rfl⟩))))))))))
  · rw [hk, show (5 : Int32) - (1 : Int32) = (4 : Int32) by decide]
    refine ⟨by decide, ?_⟩
    rcases own_rem4 p3 with hs | hs | hs | hs
    · rw [hs, show (1 : Int32) + (0 : Int32) = (1 : Int32) by decide]
      refine ⟨by unfold own_HFT; decide, fun hz p4 x0 x1 x2 x3 => ?_⟩
      exact absurd rfl hz
    · rw [hs, show (1 : Int32) + (1 : Int32) = (2 : Int32) by decide]
      refine ⟨by unfold own_HFT; decide, fun hz p4 x0 x1 x2 x3 => ?_⟩
      rcases own_rem1 p4 with hi
      · rw [hi, show (1 : Int32) + (0 : Int32) = (1 : Int32) by decide]
        unfold own_HC own_pick
        exact Or.inr (Or.inr (Or.inr (Or.inr (Or.inr (Or.inr (Or.inr (Or.inr (Or.inr (Or.inr ((Or.inl ⟨rfl, rfl, rfl, rfl, rfl⟩)))))))))))
    · rw [hs, show (1 : Int32) + (2 : Int32) = (3 : Int32) by decide]
      refine ⟨by unfold own_HFT; decide, fun hz p4 x0 x1 x2 x3 => ?_⟩
      rcases own_rem2 p4 with hi | hi
      · rw [hi, show (1 : Int32) + (0 : Int32) = (1 : Int32) by decide]
        unfold own_HC own_pick
        exact Or.inr (Or.inr (Or.inr (Or.inr (Or.inr (Or.inr (Or.inr (Or.inr (Or.inr (Or.inr (Or.inr ((Or.inl ⟨rfl, rfl, rfl, rfl, rfl⟩))))))))))))
      · rw [hi, show (1 : Int32) + (1 : Int32) = (2 : Int32) by decide]
        unfold own_HC own_pick
        exact Or.inr (Or.inr (Or.inr (Or.inr (Or.inr (Or.inr (Or.inr (Or.inr (Or.inr (Or.inr (Or.inr (Or.inr ((Or.inl ⟨rfl, rfl, rfl, rfl, rfl⟩)))))))))))))
    · rw [hs, show (1 : Int32) + (3 : Int32) = (4 : Int32) by decide]
      refine ⟨by unfold own_HFT; decide, fun hz p4 x0 x1 x2 x3 => ?_⟩
      rcases own_rem3 p4 with hi | hi | hi
      · rw [hi, show (1 : Int32) + (0 : Int32) = (1 : Int32) by decide]
        unfold own_HC own_pick
        exact Or.inr (Or.inr (Or.inr (Or.inr (Or.inr (Or.inr (Or.inr (Or.inr (Or.inr (Or.inr (Or.inr (Or.inr (Or.inr ((Or.inl ⟨rfl, rfl, rfl, rfl, rfl⟩))))))))))))))
      · rw [hi, show (1 : Int32) + (1 : Int32) = (2 : Int32) by decide]
        unfold own_HC own_pick
        exact Or.inr (Or.inr (Or.inr (Or.inr (Or.inr (Or.inr (Or.inr (Or.inr (Or.inr (Or.inr (Or.inr (Or.inr (Or.inr (Or.inr ((Or.inl ⟨rfl, rfl, rfl, rfl, rfl⟩)))))))))))))))
      · rw [hi, show (1 : Int32) + (2 : Int32) = (3 : Int32) by decide]
        unfold own_HC own_pick
        exact Or.inr (Or.inr (Or.inr (Or.inr (Or.inr (Or.inr (Or.inr (Or.inr (Or.inr (Or.inr (Or.inr (Or.inr (Or.inr (Or.inr (Or.inr ((Or.inl ⟨rfl, rfl, rfl, rfl, rfl⟩))))))))))))))))
  · rw [hk, show (5 : Int32) - (2 : Int32) = (3 : Int32) by decide]
    refine ⟨by decide, ?_⟩
    rcases own_rem3 p3 with hs | hs | hs
    · rw [hs, show (2 : Int32) + (0 : Int32) = (2 : Int32) by decide]
      refine ⟨by unfold own_HFT; decide, fun hz p4 x0 x1 x2 x3 => ?_⟩
      exact absurd rfl hz
    · rw [hs, show (2 : Int32) + (1 : Int32) = (3 : Int32) by decide]
      refine ⟨by unfold own_HFT; decide, fun hz p4 x0 x1 x2 x3 => ?_⟩
      rcases own_rem1 p4 with hi
      · rw [hi, show (2 : Int32) + (0 : Int32) = (2 : Int32) by decide]
        unfold own_HC own_pick
        exact Or.inr (Or.inr (Or.inr (Or.inr (Or.inr (Or.inr (Or.inr (Or.inr (Or.inr (Or.inr (Or.inr (Or.inr (Or.inr (Or.inr (Or.inr (Or.inr ((Or.inl ⟨rfl, rfl, rfl, rfl, rfl⟩)))))))))))))))))
    · rw [hs, show (2 : Int32) + (2 : Int32) = (4 : Int32) by decide]
      refine ⟨by unfold own_HFT; decide, fun hz p4 x0 x1 x2 x3 => ?_⟩
      rcases own_rem2 p4 with hi | hi
      · rw [hi, show (2 : Int32) + (0 : Int32) = (2 : Int32) by decide]
        unfold own_HC own_pick
        exact Or.inr (Or.inr (Or.inr (Or.inr (Or.inr (Or.inr (Or.inr (Or.inr (Or.inr (Or.inr (Or.inr (Or.inr (Or.inr (Or.inr (Or.inr (Or.inr (Or.inr ((Or.inl ⟨rfl, rfl, rfl, rfl, rfl⟩))))))))))))))))))
      · rw [hi, show (2 : Int32) + (1 : Int32) = (3 : Int32) by decide]
        unfold own_HC own_pick
        exact Or.inr (Or.inr (Or.inr (Or.inr (Or.inr (Or.inr (Or.inr (Or.inr (Or.inr (Or.inr (Or.inr (Or.inr (Or.inr (Or.inr (Or.inr (Or.inr (Or.inr (Or.inr ((Or.inl ⟨rfl, rfl, rfl, rfl, rfl⟩)))))))))))))))))))
  · rw [hk, show (5 : Int32) - (3 : Int32) = (2 : Int32) by decide]
    refine ⟨by decide, ?_⟩
    rcases own_rem2 p3 with hs | hs
    · rw [hs, show (3 : Int32) + (0 : Int32) = (3 : Int32) by decide]
      refine ⟨by unfold own_HFT; decide, fun hz p4 x0 x1 x2 x3 => ?_⟩
      exact absurd rfl hz
    · rw [hs, show (3 : Int32) + (1 : Int32) = (4 : Int32) by decide]
      refine ⟨by unfold own_HFT; decide, fun hz p4 x0 x1 x2 x3 => ?_⟩
      rcases own_rem1 p4 with hi
      · rw [hi, show (3 : Int32) + (0 : Int32) = (3 : Int32) by decide]
        unfold own_HC own_pick
        exact Or.inr (Or.inr (Or.inr (Or.inr (Or.inr (Or.inr (Or.inr (Or.inr (Or.inr (Or.inr (Or.inr (Or.inr (Or.inr (Or.inr (Or.inr (Or.inr (Or.inr (Or.inr (Or.inr (⟨rfl, rfl, rfl, rfl, rfl⟩)))))))))))))))))))
theorem sn0 {Z : State} {a0 : Array Value} (hw : ∀ d ∈ tables_1, d.before a0 Z = true) : Jvm.RoadKit.slotOf Z "com/example/buurt/buurt/model/CrossTermFrequencies" "tfs" "[D" ≠ Jvm.RoadKit.slotOf Z "com/example/buurt/buurt/model/CrossTermFrequencies" "docs" "[I" := slot_ne (Or.inr (own_w hw 18 rfl)) (Or.inr (own_w hw 16 rfl)) (by decide) (t := (.array .double)) (t' := (.array .int)) (by decide) (by decide)
theorem sn1 {Z : State} {a0 : Array Value} (hw : ∀ d ∈ tables_1, d.before a0 Z = true) : Jvm.RoadKit.slotOf Z "com/example/buurt/buurt/model/CrossTermFrequencies" "occurs" "[I" ≠ Jvm.RoadKit.slotOf Z "com/example/buurt/buurt/model/CrossTermFrequencies" "docs" "[I" := slot_ne (Or.inr (own_w hw 20 rfl)) (Or.inr (own_w hw 16 rfl)) (by decide) (t := (.array .int)) (t' := (.array .int)) (by decide) (by decide)
theorem sn2 {Z : State} {a0 : Array Value} (hw : ∀ d ∈ tables_1, d.before a0 Z = true) : Jvm.RoadKit.slotOf Z "com/example/buurt/buurt/model/CrossTermFrequencies" "occurs" "[I" ≠ Jvm.RoadKit.slotOf Z "com/example/buurt/buurt/model/CrossTermFrequencies" "tfs" "[D" := slot_ne (Or.inr (own_w hw 20 rfl)) (Or.inr (own_w hw 18 rfl)) (by decide) (t := (.array .int)) (t' := (.array .double)) (by decide) (by decide)
theorem sn3 {Z : State} {a0 : Array Value} (hw : ∀ d ∈ tables_1, d.before a0 Z = true) : Jvm.RoadKit.slotOf Z "com/example/buurt/buurt/model/CrossTermFrequencies" "from" "I" ≠ Jvm.RoadKit.slotOf Z "com/example/buurt/buurt/model/CrossTermFrequencies" "docs" "[I" := slot_ne (Or.inr (own_w hw 22 rfl)) (Or.inr (own_w hw 16 rfl)) (by decide) (t := .int) (t' := (.array .int)) (by decide) (by decide)
theorem sn4 {Z : State} {a0 : Array Value} (hw : ∀ d ∈ tables_1, d.before a0 Z = true) : Jvm.RoadKit.slotOf Z "com/example/buurt/buurt/model/CrossTermFrequencies" "from" "I" ≠ Jvm.RoadKit.slotOf Z "com/example/buurt/buurt/model/CrossTermFrequencies" "tfs" "[D" := slot_ne (Or.inr (own_w hw 22 rfl)) (Or.inr (own_w hw 18 rfl)) (by decide) (t := .int) (t' := (.array .double)) (by decide) (by decide)
theorem sn5 {Z : State} {a0 : Array Value} (hw : ∀ d ∈ tables_1, d.before a0 Z = true) : Jvm.RoadKit.slotOf Z "com/example/buurt/buurt/model/CrossTermFrequencies" "from" "I" ≠ Jvm.RoadKit.slotOf Z "com/example/buurt/buurt/model/CrossTermFrequencies" "occurs" "[I" := slot_ne (Or.inr (own_w hw 22 rfl)) (Or.inr (own_w hw 20 rfl)) (by decide) (t := .int) (t' := (.array .int)) (by decide) (by decide)
theorem sn6 {Z : State} {a0 : Array Value} (hw : ∀ d ∈ tables_1, d.before a0 Z = true) : Jvm.RoadKit.slotOf Z "com/example/buurt/buurt/model/CrossTermFrequencies" "to" "I" ≠ Jvm.RoadKit.slotOf Z "com/example/buurt/buurt/model/CrossTermFrequencies" "docs" "[I" := slot_ne (Or.inr (own_w hw 24 rfl)) (Or.inr (own_w hw 16 rfl)) (by decide) (t := .int) (t' := (.array .int)) (by decide) (by decide)
theorem sn7 {Z : State} {a0 : Array Value} (hw : ∀ d ∈ tables_1, d.before a0 Z = true) : Jvm.RoadKit.slotOf Z "com/example/buurt/buurt/model/CrossTermFrequencies" "to" "I" ≠ Jvm.RoadKit.slotOf Z "com/example/buurt/buurt/model/CrossTermFrequencies" "tfs" "[D" := slot_ne (Or.inr (own_w hw 24 rfl)) (Or.inr (own_w hw 18 rfl)) (by decide) (t := .int) (t' := (.array .double)) (by decide) (by decide)
theorem sn8 {Z : State} {a0 : Array Value} (hw : ∀ d ∈ tables_1, d.before a0 Z = true) : Jvm.RoadKit.slotOf Z "com/example/buurt/buurt/model/CrossTermFrequencies" "to" "I" ≠ Jvm.RoadKit.slotOf Z "com/example/buurt/buurt/model/CrossTermFrequencies" "occurs" "[I" := slot_ne (Or.inr (own_w hw 24 rfl)) (Or.inr (own_w hw 20 rfl)) (by decide) (t := .int) (t' := (.array .int)) (by decide) (by decide)
theorem sn9 {Z : State} {a0 : Array Value} (hw : ∀ d ∈ tables_1, d.before a0 Z = true) : Jvm.RoadKit.slotOf Z "com/example/buurt/buurt/model/CrossTermFrequencies" "to" "I" ≠ Jvm.RoadKit.slotOf Z "com/example/buurt/buurt/model/CrossTermFrequencies" "from" "I" := slot_ne (Or.inr (own_w hw 24 rfl)) (Or.inr (own_w hw 22 rfl)) (by decide) (t := .int) (t' := .int) (by decide) (by decide)
theorem sn10 {Z : State} {a0 : Array Value} (hw : ∀ d ∈ tables_1, d.before a0 Z = true) : Jvm.RoadKit.slotOf Z "com/example/buurt/buurt/model/CrossTermFrequencies" "documentFrequency" "D" ≠ Jvm.RoadKit.slotOf Z "com/example/buurt/buurt/model/CrossTermFrequencies" "docs" "[I" := slot_ne (Or.inr (own_w hw 26 rfl)) (Or.inr (own_w hw 16 rfl)) (by decide) (t := .double) (t' := (.array .int)) (by decide) (by decide)
theorem sn11 {Z : State} {a0 : Array Value} (hw : ∀ d ∈ tables_1, d.before a0 Z = true) : Jvm.RoadKit.slotOf Z "com/example/buurt/buurt/model/CrossTermFrequencies" "documentFrequency" "D" ≠ Jvm.RoadKit.slotOf Z "com/example/buurt/buurt/model/CrossTermFrequencies" "tfs" "[D" := slot_ne (Or.inr (own_w hw 26 rfl)) (Or.inr (own_w hw 18 rfl)) (by decide) (t := .double) (t' := (.array .double)) (by decide) (by decide)
theorem sn12 {Z : State} {a0 : Array Value} (hw : ∀ d ∈ tables_1, d.before a0 Z = true) : Jvm.RoadKit.slotOf Z "com/example/buurt/buurt/model/CrossTermFrequencies" "documentFrequency" "D" ≠ Jvm.RoadKit.slotOf Z "com/example/buurt/buurt/model/CrossTermFrequencies" "occurs" "[I" := slot_ne (Or.inr (own_w hw 26 rfl)) (Or.inr (own_w hw 20 rfl)) (by decide) (t := .double) (t' := (.array .int)) (by decide) (by decide)
theorem sn13 {Z : State} {a0 : Array Value} (hw : ∀ d ∈ tables_1, d.before a0 Z = true) : Jvm.RoadKit.slotOf Z "com/example/buurt/buurt/model/CrossTermFrequencies" "documentFrequency" "D" ≠ Jvm.RoadKit.slotOf Z "com/example/buurt/buurt/model/CrossTermFrequencies" "from" "I" := slot_ne (Or.inr (own_w hw 26 rfl)) (Or.inr (own_w hw 22 rfl)) (by decide) (t := .double) (t' := .int) (by decide) (by decide)
theorem sn14 {Z : State} {a0 : Array Value} (hw : ∀ d ∈ tables_1, d.before a0 Z = true) : Jvm.RoadKit.slotOf Z "com/example/buurt/buurt/model/CrossTermFrequencies" "documentFrequency" "D" ≠ Jvm.RoadKit.slotOf Z "com/example/buurt/buurt/model/CrossTermFrequencies" "to" "I" := slot_ne (Or.inr (own_w hw 26 rfl)) (Or.inr (own_w hw 24 rfl)) (by decide) (t := .double) (t' := .int) (by decide) (by decide)
theorem sn15 {Z : State} {a0 : Array Value} (hw : ∀ d ∈ tables_1, d.before a0 Z = true) : Jvm.RoadKit.slotOf Z "com/example/buurt/buurt/model/CrossTermFrequencies" "collectionFrequency" "D" ≠ Jvm.RoadKit.slotOf Z "com/example/buurt/buurt/model/CrossTermFrequencies" "docs" "[I" := slot_ne (Or.inr (own_w hw 28 rfl)) (Or.inr (own_w hw 16 rfl)) (by decide) (t := .double) (t' := (.array .int)) (by decide) (by decide)
theorem sn16 {Z : State} {a0 : Array Value} (hw : ∀ d ∈ tables_1, d.before a0 Z = true) : Jvm.RoadKit.slotOf Z "com/example/buurt/buurt/model/CrossTermFrequencies" "collectionFrequency" "D" ≠ Jvm.RoadKit.slotOf Z "com/example/buurt/buurt/model/CrossTermFrequencies" "tfs" "[D" := slot_ne (Or.inr (own_w hw 28 rfl)) (Or.inr (own_w hw 18 rfl)) (by decide) (t := .double) (t' := (.array .double)) (by decide) (by decide)
theorem sn17 {Z : State} {a0 : Array Value} (hw : ∀ d ∈ tables_1, d.before a0 Z = true) : Jvm.RoadKit.slotOf Z "com/example/buurt/buurt/model/CrossTermFrequencies" "collectionFrequency" "D" ≠ Jvm.RoadKit.slotOf Z "com/example/buurt/buurt/model/CrossTermFrequencies" "occurs" "[I" := slot_ne (Or.inr (own_w hw 28 rfl)) (Or.inr (own_w hw 20 rfl)) (by decide) (t := .double) (t' := (.array .int)) (by decide) (by decide)
theorem sn18 {Z : State} {a0 : Array Value} (hw : ∀ d ∈ tables_1, d.before a0 Z = true) : Jvm.RoadKit.slotOf Z "com/example/buurt/buurt/model/CrossTermFrequencies" "collectionFrequency" "D" ≠ Jvm.RoadKit.slotOf Z "com/example/buurt/buurt/model/CrossTermFrequencies" "from" "I" := slot_ne (Or.inr (own_w hw 28 rfl)) (Or.inr (own_w hw 22 rfl)) (by decide) (t := .double) (t' := .int) (by decide) (by decide)
theorem sn19 {Z : State} {a0 : Array Value} (hw : ∀ d ∈ tables_1, d.before a0 Z = true) : Jvm.RoadKit.slotOf Z "com/example/buurt/buurt/model/CrossTermFrequencies" "collectionFrequency" "D" ≠ Jvm.RoadKit.slotOf Z "com/example/buurt/buurt/model/CrossTermFrequencies" "to" "I" := slot_ne (Or.inr (own_w hw 28 rfl)) (Or.inr (own_w hw 24 rfl)) (by decide) (t := .double) (t' := .int) (by decide) (by decide)
theorem sn20 {Z : State} {a0 : Array Value} (hw : ∀ d ∈ tables_1, d.before a0 Z = true) : Jvm.RoadKit.slotOf Z "com/example/buurt/buurt/model/CrossTermFrequencies" "collectionFrequency" "D" ≠ Jvm.RoadKit.slotOf Z "com/example/buurt/buurt/model/CrossTermFrequencies" "documentFrequency" "D" := slot_ne (Or.inr (own_w hw 28 rfl)) (Or.inr (own_w hw 26 rfl)) (by decide) (t := .double) (t' := .double) (by decide) (by decide)
theorem sn21 {Z : State} {a0 : Array Value} (hw : ∀ d ∈ tables_1, d.before a0 Z = true) : Jvm.RoadKit.slotOf Z "com/example/buurt/buurt/model/CrossTermFrequencies" "docs" "[I" ≠ Jvm.RoadKit.slotOf Z "com/example/buurt/buurt/model/CrossTermFrequencies" "tfs" "[D" := slot_ne (Or.inr (own_w hw 16 rfl)) (Or.inr (own_w hw 18 rfl)) (by decide) (t := (.array .int)) (t' := (.array .double)) (by decide) (by decide)
theorem sn22 {Z : State} {a0 : Array Value} (hw : ∀ d ∈ tables_1, d.before a0 Z = true) : Jvm.RoadKit.slotOf Z "com/example/buurt/buurt/model/CrossTermFrequencies" "docs" "[I" ≠ Jvm.RoadKit.slotOf Z "com/example/buurt/buurt/model/CrossTermFrequencies" "occurs" "[I" := slot_ne (Or.inr (own_w hw 16 rfl)) (Or.inr (own_w hw 20 rfl)) (by decide) (t := (.array .int)) (t' := (.array .int)) (by decide) (by decide)
theorem sn23 {Z : State} {a0 : Array Value} (hw : ∀ d ∈ tables_1, d.before a0 Z = true) : Jvm.RoadKit.slotOf Z "com/example/buurt/buurt/model/CrossTermFrequencies" "docs" "[I" ≠ Jvm.RoadKit.slotOf Z "com/example/buurt/buurt/model/CrossTermFrequencies" "from" "I" := slot_ne (Or.inr (own_w hw 16 rfl)) (Or.inr (own_w hw 22 rfl)) (by decide) (t := (.array .int)) (t' := .int) (by decide) (by decide)
theorem sn24 {Z : State} {a0 : Array Value} (hw : ∀ d ∈ tables_1, d.before a0 Z = true) : Jvm.RoadKit.slotOf Z "com/example/buurt/buurt/model/CrossTermFrequencies" "docs" "[I" ≠ Jvm.RoadKit.slotOf Z "com/example/buurt/buurt/model/CrossTermFrequencies" "to" "I" := slot_ne (Or.inr (own_w hw 16 rfl)) (Or.inr (own_w hw 24 rfl)) (by decide) (t := (.array .int)) (t' := .int) (by decide) (by decide)
theorem sn25 {Z : State} {a0 : Array Value} (hw : ∀ d ∈ tables_1, d.before a0 Z = true) : Jvm.RoadKit.slotOf Z "com/example/buurt/buurt/model/CrossTermFrequencies" "docs" "[I" ≠ Jvm.RoadKit.slotOf Z "com/example/buurt/buurt/model/CrossTermFrequencies" "documentFrequency" "D" := slot_ne (Or.inr (own_w hw 16 rfl)) (Or.inr (own_w hw 26 rfl)) (by decide) (t := (.array .int)) (t' := .double) (by decide) (by decide)
theorem sn26 {Z : State} {a0 : Array Value} (hw : ∀ d ∈ tables_1, d.before a0 Z = true) : Jvm.RoadKit.slotOf Z "com/example/buurt/buurt/model/CrossTermFrequencies" "docs" "[I" ≠ Jvm.RoadKit.slotOf Z "com/example/buurt/buurt/model/CrossTermFrequencies" "collectionFrequency" "D" := slot_ne (Or.inr (own_w hw 16 rfl)) (Or.inr (own_w hw 28 rfl)) (by decide) (t := (.array .int)) (t' := .double) (by decide) (by decide)
theorem sn27 {Z : State} {a0 : Array Value} (hw : ∀ d ∈ tables_1, d.before a0 Z = true) : Jvm.RoadKit.slotOf Z "com/example/buurt/buurt/model/CrossTermFrequencies" "from" "I" ≠ Jvm.RoadKit.slotOf Z "com/example/buurt/buurt/model/CrossTermFrequencies" "to" "I" := slot_ne (Or.inr (own_w hw 22 rfl)) (Or.inr (own_w hw 24 rfl)) (by decide) (t := .int) (t' := .int) (by decide) (by decide)
theorem sn28 {Z : State} {a0 : Array Value} (hw : ∀ d ∈ tables_1, d.before a0 Z = true) : Jvm.RoadKit.slotOf Z "com/example/buurt/buurt/model/CrossTermFrequencies" "from" "I" ≠ Jvm.RoadKit.slotOf Z "com/example/buurt/buurt/model/CrossTermFrequencies" "documentFrequency" "D" := slot_ne (Or.inr (own_w hw 22 rfl)) (Or.inr (own_w hw 26 rfl)) (by decide) (t := .int) (t' := .double) (by decide) (by decide)
theorem sn29 {Z : State} {a0 : Array Value} (hw : ∀ d ∈ tables_1, d.before a0 Z = true) : Jvm.RoadKit.slotOf Z "com/example/buurt/buurt/model/CrossTermFrequencies" "from" "I" ≠ Jvm.RoadKit.slotOf Z "com/example/buurt/buurt/model/CrossTermFrequencies" "collectionFrequency" "D" := slot_ne (Or.inr (own_w hw 22 rfl)) (Or.inr (own_w hw 28 rfl)) (by decide) (t := .int) (t' := .double) (by decide) (by decide)
theorem sn30 {Z : State} {a0 : Array Value} (hw : ∀ d ∈ tables_1, d.before a0 Z = true) : Jvm.RoadKit.slotOf Z "com/example/buurt/buurt/model/CrossTermFrequencies" "to" "I" ≠ Jvm.RoadKit.slotOf Z "com/example/buurt/buurt/model/CrossTermFrequencies" "documentFrequency" "D" := slot_ne (Or.inr (own_w hw 24 rfl)) (Or.inr (own_w hw 26 rfl)) (by decide) (t := .int) (t' := .double) (by decide) (by decide)
theorem sn31 {Z : State} {a0 : Array Value} (hw : ∀ d ∈ tables_1, d.before a0 Z = true) : Jvm.RoadKit.slotOf Z "com/example/buurt/buurt/model/CrossTermFrequencies" "to" "I" ≠ Jvm.RoadKit.slotOf Z "com/example/buurt/buurt/model/CrossTermFrequencies" "collectionFrequency" "D" := slot_ne (Or.inr (own_w hw 24 rfl)) (Or.inr (own_w hw 28 rfl)) (by decide) (t := .int) (t' := .double) (by decide) (by decide)
theorem d1_0 : decode prog_27_method_1_code 0 = .ok (.aload_n 0, 1) := by decide +kernel
theorem d1_1 : decode prog_27_method_1_code 1 = .ok (.invokespecial 1, 3) := by decide +kernel
theorem d1_4 : decode prog_27_method_1_code 4 = .ok (.aload_n 0, 1) := by decide +kernel
theorem d1_5 : decode prog_27_method_1_code 5 = .ok (.aload_n 1, 1) := by decide +kernel
theorem d1_6 : decode prog_27_method_1_code 6 = .ok (.putfield 7, 3) := by decide +kernel
theorem d1_9 : decode prog_27_method_1_code 9 = .ok (.aload_n 0, 1) := by decide +kernel
theorem d1_10 : decode prog_27_method_1_code 10 = .ok (.aload_n 2, 1) := by decide +kernel
theorem d1_11 : decode prog_27_method_1_code 11 = .ok (.putfield 13, 3) := by decide +kernel
theorem d1_14 : decode prog_27_method_1_code 14 = .ok (.aload_n 0, 1) := by decide +kernel
theorem d1_15 : decode prog_27_method_1_code 15 = .ok (.aload_n 3, 1) := by decide +kernel
theorem d1_16 : decode prog_27_method_1_code 16 = .ok (.putfield 17, 3) := by decide +kernel
theorem d1_19 : decode prog_27_method_1_code 19 = .ok (.aload_n 0, 1) := by decide +kernel
theorem d1_20 : decode prog_27_method_1_code 20 = .ok (.iload 4, 2) := by decide +kernel
theorem d1_22 : decode prog_27_method_1_code 22 = .ok (.putfield 20, 3) := by decide +kernel
theorem d1_25 : decode prog_27_method_1_code 25 = .ok (.aload_n 0, 1) := by decide +kernel
theorem d1_26 : decode prog_27_method_1_code 26 = .ok (.iload 5, 2) := by decide +kernel
theorem d1_28 : decode prog_27_method_1_code 28 = .ok (.putfield 24, 3) := by decide +kernel
theorem d1_31 : decode prog_27_method_1_code 31 = .ok (.dconst 0, 1) := by decide +kernel
theorem d1_32 : decode prog_27_method_1_code 32 = .ok (.dstore 6, 2) := by decide +kernel
theorem d1_34 : decode prog_27_method_1_code 34 = .ok (.dconst 0, 1) := by decide +kernel
theorem d1_35 : decode prog_27_method_1_code 35 = .ok (.dstore 8, 2) := by decide +kernel
theorem d1_37 : decode prog_27_method_1_code 37 = .ok (.iload 4, 2) := by decide +kernel
theorem d1_39 : decode prog_27_method_1_code 39 = .ok (.istore 10, 2) := by decide +kernel
theorem d1_41 : decode prog_27_method_1_code 41 = .ok (.iload 10, 2) := by decide +kernel
theorem d1_43 : decode prog_27_method_1_code 43 = .ok (.iload 5, 2) := by decide +kernel
theorem d1_45 : decode prog_27_method_1_code 45 = .ok (.if_icmp .ge 33, 3) := by decide +kernel
theorem d1_78 : decode prog_27_method_1_code 78 = .ok (.aload_n 0, 1) := by decide +kernel
theorem d1_79 : decode prog_27_method_1_code 79 = .ok (.dload 6, 2) := by decide +kernel
theorem d1_81 : decode prog_27_method_1_code 81 = .ok (.putfield 27, 3) := by decide +kernel
theorem d1_84 : decode prog_27_method_1_code 84 = .ok (.aload_n 0, 1) := by decide +kernel
theorem d1_85 : decode prog_27_method_1_code 85 = .ok (.dload 8, 2) := by decide +kernel
theorem d1_87 : decode prog_27_method_1_code 87 = .ok (.putfield 31, 3) := by decide +kernel
theorem d1_90 : decode prog_27_method_1_code 90 = .ok (.return_, 1) := by decide +kernel
theorem pn0 : plainName "com/example/buurt/buurt/model/CrossTermFrequencies" = true := by first | (simp [plainName, overriddenIn]; done) | decide +kernel
theorem ef1_0_0 (m : MethodId) (r0 : Addr) (r1 : Addr) (r2 : Addr) (r3 : Addr) : entryFrame m #[(.ref r0), (.ref r1), (.ref r2), (.ref r3), (.int 0), (.int 0)] 11 = mkF m 0 #[.val (.ref r0), .val (.ref r1), .val (.ref r2), .val (.ref r3), .val (.int 0), .val (.int 0), .unset, .unset, .unset, .unset, .unset] [] := by first | (simp [entryFrame, mkF, argsToLocals, Value.category]; done) | rfl
def Q1_0_0 (Z : State) (r0 : Addr) (r1 : Addr) (r2 : Addr) (r3 : Addr) (u0 : Value) (u1 : Value) (u2 : Value) (u3 : Value) (u4 : Value) (u5 : Value) (u6 : Value) (kd : ClassId) (ko : ClassId) (h0 : Heap) (n0 : Nat) (v : Option Value) (h : Heap) (L : List Loc) : Prop := v = none ∧ Fr n0 L ∧ (Keep h0 h [r0]) ∧ (Exa Z h r0 "com/example/buurt/buurt/model/CrossTermFrequencies") ∧ (Fld Z h r0 "com/example/buurt/buurt/model/CrossTermFrequencies" "docs" "[I" (.ref r1)) ∧ (Fld Z h r0 "com/example/buurt/buurt/model/CrossTermFrequencies" "from" "I" (.int 0)) ∧ (Fld Z h r0 "com/example/buurt/buurt/model/CrossTermFrequencies" "to" "I" (.int 0))
set_option maxRecDepth 65536 in
set_option maxHeartbeats 40000000 in
theorem rm1_0_0 (l : Launch) (Z : State) (a0 : Array Value) (hw : ∀ d ∈ tables_1, d.before a0 Z = true) (ws : List Jvm.Cond) (r0 : Addr) (r1 : Addr) (r2 : Addr) (r3 : Addr) (u0 : Value) (u1 : Value) (u2 : Value) (u3 : Value) (u4 : Value) (u5 : Value) (u6 : Value) (kd : ClassId) (ko : ClassId) (h0 : Heap) (n0 : Nat) (Z0 : n0 ≤ h0.size) (F_docs_r0 : Fld Z h0 r0 "com/example/buurt/buurt/model/CrossTermFrequencies" "docs" "[I" u0) (F_tfs_r0 : Fld Z h0 r0 "com/example/buurt/buurt/model/CrossTermFrequencies" "tfs" "[D" u1) (F_occurs_r0 : Fld Z h0 r0 "com/example/buurt/buurt/model/CrossTermFrequencies" "occurs" "[I" u2) (F_from_r0 : Fld Z h0 r0 "com/example/buurt/buurt/model/CrossTermFrequencies" "from" "I" u3) (F_to_r0 : Fld Z h0 r0 "com/example/buurt/buurt/model/CrossTermFrequencies" "to" "I" u4) (F_documentFrequency_r0 : Fld Z h0 r0 "com/example/buurt/buurt/model/CrossTermFrequencies" "documentFrequency" "D" u5) (F_collectionFrequency_r0 : Fld Z h0 r0 "com/example/buurt/buurt/model/CrossTermFrequencies" "collectionFrequency" "D" u6) (E_r0 : Exa Z h0 r0 "com/example/buurt/buurt/model/CrossTermFrequencies") (g_r0 : n0 ≤ r0) (V_r2 : Arv Z h0 r2 kd .double (4 : Int32) [(.double 4607182418800017408), (.double 4611686018427387904), (.double 4613937818241073152), (.double 4616189618054758400)] (.double 0)) (V_r3 : Arv Z h0 r3 ko .int (4 : Int32) [(.int 1), (.int 1), (.int 1), (.int 1)] (.int 0)) (ne_r2_r0 : r2 ≠ r0) (ne_r3_r0 : r3 ≠ r0) :
    MetFree l (⟨"com/example/buurt/buurt/model/CrossTermFrequencies", "<init>", "([I[D[III)V"⟩ : MethodName) (head1 (Jvm.Cond.code (⟨"com/example/buurt/buurt/model/CrossTermFrequencies", "<init>", "([I[D[III)V"⟩ : MethodName) prog_27_method_1_code 11 none :: ws) ({ frames := 1, cells := 0, slots := 0, locals := 12 } : Room)) (fun a U => a = #[(.ref r0), (.ref r1), (.ref r2), (.ref r3), (.int 0), (.int 0)] ∧ Z.Warmed39 U.vm ∧ U.heap = h0) (fun _ _ _ _ _ => True) (fun _ U o U' => ∃ v L, o = .returned v ∧ Q1_0_0 Z r0 r1 r2 r3 u0 u1 u2 u3 u4 u5 u6 kd ko h0 n0 v U'.heap L ∧ FrameEnd U o U' L ({ frames := 1, cells := 0, slots := 0, locals := 12 } : Room).cells ({ frames := 1, cells := 0, slots := 0, locals := 12 } : Room).slots) := by
  refine MetFree.of_bodySF (plainFor_of_name pn0) hisR ?_
  intro p e s m args below meth c s₁ Bd hml0 hP hK
  obtain ⟨rfl, hZ, hh⟩ := hP
  have hx := Bd.exec
  have hby := Bd.bytes
  have hml : c.maxLocals = 11 := hml0
  have hown : s.vm.findClass "com/example/buurt/buurt/model/CrossTermFrequencies" = some m.cls := findClass_of_methodNamed Bd.named
  have hnm := (name_of_methodNamed Bd.named Bd.method).1
  have X0 : Stand p l e ({ frames := 1, cells := 0, slots := 0, locals := 12 } : Room) s m #[(.ref r0), (.ref r1), (.ref r2), (.ref r3), (.int 0), (.int 0)] below meth c s₁ [] 0 0 := Stand.of_body Bd
  have e0 : s₁.heap = h0 := by rw [← hh, Bd.state]; rfl
  have N0 := Fr.nil n0
  have pre0 : ∀ t, Steps p.tables e below (s₁.setTop (mkF m 0 #[.val (.ref r0), .val (.ref r1), .val (.ref r2), .val (.ref r3), .val (.int 0), .val (.int 0), .unset, .unset, .unset, .unset, .unset] [])) t → Steps p.tables e below (s₁.setTop (entryFrame m #[(.ref r0), (.ref r1), (.ref r2), (.ref r3), (.int 0), (.int 0)] 11)) t := fun t k => castTop (ef1_0_0 m r0 r1 r2 r3) k
  obtain ⟨T101, X101, e101, st101⟩ := initO X0 hx hZ hown (own_w hw 12 rfl) (own_w hw 13 rfl) (own_w hw 14 rfl) e0 (g := (mkF m 1 #[.val (.ref r0), .val (.ref r1), .val (.ref r2), .val (.ref r3), .val (.int 0), .val (.int 0), .unset, .unset, .unset, .unset, .unset] [(.ref r0)])) rfl (by rw [hml]; rfl) rfl (hb hby d1_1) (by decide) (W := 0) (by show 2 * 0 + _ ≤ _; exact Nat.le_of_eq rfl) (by decide)
  obtain ⟨T102, h102, X102, e102, W102, st102⟩ := putF X101 hx hZ hown (host := "") (Or.inl (own_w hw 15 rfl)) Via.refl e101 F_docs_r0 E_r0 (Or.inr ⟨(own_w hw 16 rfl), rfl, hnm⟩) (own_w hw 7 rfl) (ty := (.array .int)) (by decide) rfl rfl (g := (mkF m 6 #[.val (.ref r0), .val (.ref r1), .val (.ref r2), .val (.ref r3), .val (.int 0), .val (.int 0), .unset, .unset, .unset, .unset, .unset] [(.ref r1), (.ref r0)])) rfl rfl (hb hby d1_6)
  have Fw102 := F_docs_r0.same W102
  have N102 := Fr.snoc X102 N0 g_r0
  have ZZ103 : n0 ≤ h102.size := Nat.le_trans Z0 (Nat.le_of_eq W102.size.symm)
  have KK104 : Keep h0 h102 [r0] := (Keep.refl h0 [r0]).wr W102 (Or.inl (List.mem_of_getElem? (i := 0) rfl))
  have Fc105 := (F_tfs_r0.other W102 (Or.inr (sn0 hw)))
  obtain ⟨T106, h106, X106, e106, W106, st106⟩ := putF X102 hx hZ hown (host := "") (Or.inl (own_w hw 17 rfl)) Via.refl e102 Fc105 (E_r0.wr W102) (Or.inr ⟨(own_w hw 18 rfl), rfl, hnm⟩) (own_w hw 7 rfl) (ty := (.array .double)) (by decide) rfl rfl (g := (mkF m 11 #[.val (.ref r0), .val (.ref r1), .val (.ref r2), .val (.ref r3), .val (.int 0), .val (.int 0), .unset, .unset, .unset, .unset, .unset] [(.ref r2), (.ref r0)])) rfl rfl (hb hby d1_11)
  have Fw106 := Fc105.same W106
  have N106 := Fr.snoc X106 N102 g_r0
  have ZZ107 : n0 ≤ h106.size := Nat.le_trans ZZ103 (Nat.le_of_eq W106.size.symm)
  have KK108 : Keep h0 h106 [r0] := KK104.wr W106 (Or.inl (List.mem_of_getElem? (i := 0) rfl))
  have Fc109 := ((F_occurs_r0.other W102 (Or.inr (sn1 hw))).other W106 (Or.inr (sn2 hw)))
  obtain ⟨T110, h110, X110, e110, W110, st110⟩ := putF X106 hx hZ hown (host := "") (Or.inl (own_w hw 19 rfl)) Via.refl e106 Fc109 ((E_r0.wr W102).wr W106) (Or.inr ⟨(own_w hw 20 rfl), rfl, hnm⟩) (own_w hw 7 rfl) (ty := (.array .int)) (by decide) rfl rfl (g := (mkF m 16 #[.val (.ref r0), .val (.ref r1), .val (.ref r2), .val (.ref r3), .val (.int 0), .val (.int 0), .unset, .unset, .unset, .unset, .unset] [(.ref r3), (.ref r0)])) rfl rfl (hb hby d1_16)
  have Fw110 := Fc109.same W110
  have N110 := Fr.snoc X110 N106 g_r0
  have ZZ111 : n0 ≤ h110.size := Nat.le_trans ZZ107 (Nat.le_of_eq W110.size.symm)
  have KK112 : Keep h0 h110 [r0] := KK108.wr W110 (Or.inl (List.mem_of_getElem? (i := 0) rfl))
  have Fc113 := (((F_from_r0.other W102 (Or.inr (sn3 hw))).other W106 (Or.inr (sn4 hw))).other W110 (Or.inr (sn5 hw)))
  have Fc114 := (((E_r0.wr W102).wr W106).wr W110)
  obtain ⟨T115, h115, X115, e115, W115, st115⟩ := putF X110 hx hZ hown (host := "") (Or.inl (own_w hw 21 rfl)) Via.refl e110 Fc113 Fc114 (Or.inr ⟨(own_w hw 22 rfl), rfl, hnm⟩) (own_w hw 7 rfl) (ty := .int) (by decide) rfl rfl (g := (mkF m 22 #[.val (.ref r0), .val (.ref r1), .val (.ref r2), .val (.ref r3), .val (.int 0), .val (.int 0), .unset, .unset, .unset, .unset, .unset] [(.int 0), (.ref r0)])) rfl rfl (hb hby d1_22)
  have Fw115 := Fc113.same W115
  have N115 := Fr.snoc X115 N110 g_r0
  have ZZ116 : n0 ≤ h115.size := Nat.le_trans ZZ111 (Nat.le_of_eq W115.size.symm)
  have KK117 : Keep h0 h115 [r0] := KK112.wr W115 (Or.inl (List.mem_of_getElem? (i := 0) rfl))
  have Fc118 := ((((F_to_r0.other W102 (Or.inr (sn6 hw))).other W106 (Or.inr (sn7 hw))).other W110 (Or.inr (sn8 hw))).other W115 (Or.inr (sn9 hw)))
  obtain ⟨T119, h119, X119, e119, W119, st119⟩ := putF X115 hx hZ hown (host := "") (Or.inl (own_w hw 23 rfl)) Via.refl e115 Fc118 (Fc114.wr W115) (Or.inr ⟨(own_w hw 24 rfl), rfl, hnm⟩) (own_w hw 7 rfl) (ty := .int) (by decide) rfl rfl (g := (mkF m 28 #[.val (.ref r0), .val (.ref r1), .val (.ref r2), .val (.ref r3), .val (.int 0), .val (.int 0), .unset, .unset, .unset, .unset, .unset] [(.int 0), (.ref r0)])) rfl rfl (hb hby d1_28)
  have Fw119 := Fc118.same W119
  have N119 := Fr.snoc X119 N115 g_r0
  have ZZ120 : n0 ≤ h119.size := Nat.le_trans ZZ116 (Nat.le_of_eq W119.size.symm)
  have KK121 : Keep h0 h119 [r0] := KK117.wr W119 (Or.inl (List.mem_of_getElem? (i := 0) rfl))
  have Fc122 := (((((F_documentFrequency_r0.other W102 (Or.inr (sn10 hw))).other W106 (Or.inr (sn11 hw))).other W110 (Or.inr (sn12 hw))).other W115 (Or.inr (sn13 hw))).other W119 (Or.inr (sn14 hw)))
  have Fc123 := ((Fc114.wr W115).wr W119)
  obtain ⟨T124, h124, X124, e124, W124, st124⟩ := putF X119 hx hZ hown (host := "") (Or.inl (own_w hw 25 rfl)) Via.refl e119 Fc122 Fc123 (Or.inr ⟨(own_w hw 26 rfl), rfl, hnm⟩) (own_w hw 7 rfl) (ty := .double) (by decide) rfl rfl (g := (mkF m 81 #[.val (.ref r0), .val (.ref r1), .val (.ref r2), .val (.ref r3), .val (.int 0), .val (.int 0), .val (.double 0), .second, .val (.double 0), .second, .val (.int 0)] [(.double 0), (.ref r0)])) rfl rfl (hb hby d1_81)
  have Fw124 := Fc122.same W124
  have N124 := Fr.snoc X124 N119 g_r0
  have ZZ125 : n0 ≤ h124.size := Nat.le_trans ZZ120 (Nat.le_of_eq W124.size.symm)
  have KK126 : Keep h0 h124 [r0] := KK121.wr W124 (Or.inl (List.mem_of_getElem? (i := 0) rfl))
  have Fc127 := ((((((F_collectionFrequency_r0.other W102 (Or.inr (sn15 hw))).other W106 (Or.inr (sn16 hw))).other W110 (Or.inr (sn17 hw))).other W115 (Or.inr (sn18 hw))).other W119 (Or.inr (sn19 hw))).other W124 (Or.inr (sn20 hw)))
  obtain ⟨T128, h128, X128, e128, W128, st128⟩ := putF X124 hx hZ hown (host := "") (Or.inl (own_w hw 27 rfl)) Via.refl e124 Fc127 (Fc123.wr W124) (Or.inr ⟨(own_w hw 28 rfl), rfl, hnm⟩) (own_w hw 7 rfl) (ty := .double) (by decide) rfl rfl (g := (mkF m 87 #[.val (.ref r0), .val (.ref r1), .val (.ref r2), .val (.ref r3), .val (.int 0), .val (.int 0), .val (.double 0), .second, .val (.double 0), .second, .val (.int 0)] [(.double 0), (.ref r0)])) rfl rfl (hb hby d1_87)
  have Fw128 := Fc127.same W128
  have N128 := Fr.snoc X128 N124 g_r0
  have ZZ129 : n0 ≤ h128.size := Nat.le_trans ZZ125 (Nat.le_of_eq W128.size.symm)
  have KK130 : Keep h0 h128 [r0] := KK126.wr W128 (Or.inl (List.mem_of_getElem? (i := 0) rfl))
  obtain ⟨fs, hr, hrun, hended, hW, hsame⟩ := X128.leave (v := none) (fun _ => rfl)
  refine ⟨_, _, pre0 _ ?_, hrun, hended, _, _, rfl, ?_, ⟨_, rfl⟩, hW, hsame.mono (by decide) (by decide)⟩
  · show own_S p e below s₁ m 0 #[oR r0, oR r1, oR r2, oR r3, oI 0, oI 0, oU, oU, oU, oU, oU] [] _
    refine XS.aloadN X0.here hx rfl (hb hby d1_0) rfl rfl ?_
    show own_S p e below s₁ m 1 #[oR r0, oR r1, oR r2, oR r3, oI 0, oI 0, oU, oU, oU, oU, oU] [(.ref r0)] _
    refine st101 _ ?_
    show own_S p e below T101 m 4 #[oR r0, oR r1, oR r2, oR r3, oI 0, oI 0, oU, oU, oU, oU, oU] [] _
    refine XS.aloadN X101.here hx rfl (hb hby d1_4) rfl rfl ?_
    show own_S p e below T101 m 5 #[oR r0, oR r1, oR r2, oR r3, oI 0, oI 0, oU, oU, oU, oU, oU] [(.ref r0)] _
    refine XS.aloadN X101.here hx rfl (hb hby d1_5) rfl rfl ?_
    show own_S p e below T101 m 6 #[oR r0, oR r1, oR r2, oR r3, oI 0, oI 0, oU, oU, oU, oU, oU] [(.ref r1), (.ref r0)] _
    refine st102 _ ?_
    show own_S p e below T102 m 9 #[oR r0, oR r1, oR r2, oR r3, oI 0, oI 0, oU, oU, oU, oU, oU] [] _
    refine XS.aloadN X102.here hx rfl (hb hby d1_9) rfl rfl ?_
    show own_S p e below T102 m 10 #[oR r0, oR r1, oR r2, oR r3, oI 0, oI 0, oU, oU, oU, oU, oU] [(.ref r0)] _
    refine XS.aloadN X102.here hx rfl (hb hby d1_10) rfl rfl ?_
    show own_S p e below T102 m 11 #[oR r0, oR r1, oR r2, oR r3, oI 0, oI 0, oU, oU, oU, oU, oU] [(.ref r2), (.ref r0)] _
    refine st106 _ ?_
    show own_S p e below T106 m 14 #[oR r0, oR r1, oR r2, oR r3, oI 0, oI 0, oU, oU, oU, oU, oU] [] _
    refine XS.aloadN X106.here hx rfl (hb hby d1_14) rfl rfl ?_
    show own_S p e below T106 m 15 #[oR r0, oR r1, oR r2, oR r3, oI 0, oI 0, oU, oU, oU, oU, oU] [(.ref r0)] _
    refine XS.aloadN X106.here hx rfl (hb hby d1_15) rfl rfl ?_
    show own_S p e below T106 m 16 #[oR r0, oR r1, oR r2, oR r3, oI 0, oI 0, oU, oU, oU, oU, oU] [(.ref r3), (.ref r0)] _
    refine st110 _ ?_
    show own_S p e below T110 m 19 #[oR r0, oR r1, oR r2, oR r3, oI 0, oI 0, oU, oU, oU, oU, oU] [] _
    refine XS.aloadN X110.here hx rfl (hb hby d1_19) rfl rfl ?_
    show own_S p e below T110 m 20 #[oR r0, oR r1, oR r2, oR r3, oI 0, oI 0, oU, oU, oU, oU, oU] [(.ref r0)] _
    refine XS.iload X110.here hx rfl (hb hby d1_20) rfl ?_
    show own_S p e below T110 m 22 #[oR r0, oR r1, oR r2, oR r3, oI 0, oI 0, oU, oU, oU, oU, oU] [(.int 0), (.ref r0)] _
    refine st115 _ ?_
    show own_S p e below T115 m 25 #[oR r0, oR r1, oR r2, oR r3, oI 0, oI 0, oU, oU, oU, oU, oU] [] _
    refine XS.aloadN X115.here hx rfl (hb hby d1_25) rfl rfl ?_
    show own_S p e below T115 m 26 #[oR r0, oR r1, oR r2, oR r3, oI 0, oI 0, oU, oU, oU, oU, oU] [(.ref r0)] _
    refine XS.iload X115.here hx rfl (hb hby d1_26) rfl ?_
    show own_S p e below T115 m 28 #[oR r0, oR r1, oR r2, oR r3, oI 0, oI 0, oU, oU, oU, oU, oU] [(.int 0), (.ref r0)] _
    refine st119 _ ?_
    show own_S p e below T119 m 31 #[oR r0, oR r1, oR r2, oR r3, oI 0, oI 0, oU, oU, oU, oU, oU] [] _
    refine XS.dconst0 X119.here hx rfl (v := 0) (hb hby d1_31) rfl ?_
    show own_S p e below T119 m 32 #[oR r0, oR r1, oR r2, oR r3, oI 0, oI 0, oU, oU, oU, oU, oU] [(.double 0)] _
    refine XS.dstore X119.here hx rfl (hb hby d1_32) rfl (l' := #[.val (.ref r0), .val (.ref r1), .val (.ref r2), .val (.ref r3), .val (.int 0), .val (.int 0), .val (.double 0), .second, .unset, .unset, .unset]) rfl ?_
    show own_S p e below T119 m 34 #[oR r0, oR r1, oR r2, oR r3, oI 0, oI 0, oD 0, oV, oU, oU, oU] [] _
    refine XS.dconst0 X119.here hx rfl (v := 0) (hb hby d1_34) rfl ?_
    show own_S p e below T119 m 35 #[oR r0, oR r1, oR r2, oR r3, oI 0, oI 0, oD 0, oV, oU, oU, oU] [(.double 0)] _
    refine XS.dstore X119.here hx rfl (hb hby d1_35) rfl (l' := #[.val (.ref r0), .val (.ref r1), .val (.ref r2), .val (.ref r3), .val (.int 0), .val (.int 0), .val (.double 0), .second, .val (.double 0), .second, .unset]) rfl ?_
    show own_S p e below T119 m 37 #[oR r0, oR r1, oR r2, oR r3, oI 0, oI 0, oD 0, oV, oD 0, oV, oU] [] _
    refine XS.iload X119.here hx rfl (hb hby d1_37) rfl ?_
    show own_S p e below T119 m 39 #[oR r0, oR r1, oR r2, oR r3, oI 0, oI 0, oD 0, oV, oD 0, oV, oU] [(.int 0)] _
    refine XS.istore X119.here hx rfl (hb hby d1_39) rfl (l' := #[.val (.ref r0), .val (.ref r1), .val (.ref r2), .val (.ref r3), .val (.int 0), .val (.int 0), .val (.double 0), .second, .val (.double 0), .second, .val (.int 0)]) rfl ?_
    show own_S p e below T119 m 41 #[oR r0, oR r1, oR r2, oR r3, oI 0, oI 0, oD 0, oV, oD 0, oV, oI 0] [] _
    refine XS.iload X119.here hx rfl (hb hby d1_41) rfl ?_
    show own_S p e below T119 m 43 #[oR r0, oR r1, oR r2, oR r3, oI 0, oI 0, oD 0, oV, oD 0, oV, oI 0] [(.int 0)] _
    refine XS.iload X119.here hx rfl (hb hby d1_43) rfl ?_
    show own_S p e below T119 m 45 #[oR r0, oR r1, oR r2, oR r3, oI 0, oI 0, oD 0, oV, oD 0, oV, oI 0] [(.int 0), (.int 0)] _
    refine XS.icmpYes X119.here hx rfl (pc0 := 45) (pc' := 78) rfl (hb hby d1_45) rfl (flt (by decide : ¬ ((0 : Int32) < (0 : Int32)))).2.1 (by decide) (by decide) ?_
    show own_S p e below T119 m 78 #[oR r0, oR r1, oR r2, oR r3, oI 0, oI 0, oD 0, oV, oD 0, oV, oI 0] [] _
    refine XS.aloadN X119.here hx rfl (hb hby d1_78) rfl rfl ?_
    show own_S p e below T119 m 79 #[oR r0, oR r1, oR r2, oR r3, oI 0, oI 0, oD 0, oV, oD 0, oV, oI 0] [(.ref r0)] _
    refine XS.dload X119.here hx rfl (hb hby d1_79) rfl ?_
    show own_S p e below T119 m 81 #[oR r0, oR r1, oR r2, oR r3, oI 0, oI 0, oD 0, oV, oD 0, oV, oI 0] [(.double 0), (.ref r0)] _
    refine st124 _ ?_
    show own_S p e below T124 m 84 #[oR r0, oR r1, oR r2, oR r3, oI 0, oI 0, oD 0, oV, oD 0, oV, oI 0] [] _
    refine XS.aloadN X124.here hx rfl (hb hby d1_84) rfl rfl ?_
    show own_S p e below T124 m 85 #[oR r0, oR r1, oR r2, oR r3, oI 0, oI 0, oD 0, oV, oD 0, oV, oI 0] [(.ref r0)] _
    refine XS.dload X124.here hx rfl (hb hby d1_85) rfl ?_
    show own_S p e below T124 m 87 #[oR r0, oR r1, oR r2, oR r3, oI 0, oI 0, oD 0, oV, oD 0, oV, oI 0] [(.double 0), (.ref r0)] _
    refine st128 _ ?_
    show own_S p e below T128 m 90 #[oR r0, oR r1, oR r2, oR r3, oI 0, oI 0, oD 0, oV, oD 0, oV, oI 0] [] _
    exact X128.returnOut hx Bd.returns (hb hby d1_90) hr
  · show Q1_0_0 Z r0 r1 r2 r3 u0 u1 u2 u3 u4 u5 u6 kd ko h0 n0 _ T128.heap _
    rw [e128]
    exact ⟨rfl, N128, KK130, ((Fc123.wr W124).wr W128), ((((((Fw102.other W106 (Or.inr (sn21 hw))).other W110 (Or.inr (sn22 hw))).other W115 (Or.inr (sn23 hw))).other W119 (Or.inr (sn24 hw))).other W124 (Or.inr (sn25 hw))).other W128 (Or.inr (sn26 hw))), (((Fw115.other W119 (Or.inr (sn27 hw))).other W124 (Or.inr (sn28 hw))).other W128 (Or.inr (sn29 hw))), ((Fw119.other W124 (Or.inr (sn30 hw))).other W128 (Or.inr (sn31 hw)))⟩
theorem d1_48 : decode prog_27_method_1_code 48 = .ok (.dload 6, 2) := by decide +kernel
theorem d1_50 : decode prog_27_method_1_code 50 = .ok (.aload_n 2, 1) := by decide +kernel
theorem d1_51 : decode prog_27_method_1_code 51 = .ok (.iload 10, 2) := by decide +kernel
theorem d1_53 : decode prog_27_method_1_code 53 = .ok (.daload, 1) := by decide +kernel
theorem d1_54 : decode prog_27_method_1_code 54 = .ok (.aload_n 3, 1) := by decide +kernel
theorem d1_55 : decode prog_27_method_1_code 55 = .ok (.iload 10, 2) := by decide +kernel
theorem d1_57 : decode prog_27_method_1_code 57 = .ok (.iaload, 1) := by decide +kernel
theorem d1_58 : decode prog_27_method_1_code 58 = .ok (.i2d, 1) := by decide +kernel
theorem d1_59 : decode prog_27_method_1_code 59 = .ok (.ddiv, 1) := by decide +kernel
theorem d1_60 : decode prog_27_method_1_code 60 = .ok (.dadd, 1) := by decide +kernel
theorem d1_61 : decode prog_27_method_1_code 61 = .ok (.dstore 6, 2) := by decide +kernel
theorem d1_63 : decode prog_27_method_1_code 63 = .ok (.dload 8, 2) := by decide +kernel
theorem d1_65 : decode prog_27_method_1_code 65 = .ok (.aload_n 2, 1) := by decide +kernel
theorem d1_66 : decode prog_27_method_1_code 66 = .ok (.iload 10, 2) := by decide +kernel
theorem d1_68 : decode prog_27_method_1_code 68 = .ok (.daload, 1) := by decide +kernel
theorem d1_69 : decode prog_27_method_1_code 69 = .ok (.dadd, 1) := by decide +kernel
theorem d1_70 : decode prog_27_method_1_code 70 = .ok (.dstore 8, 2) := by decide +kernel
theorem d1_72 : decode prog_27_method_1_code 72 = .ok (.iinc 10 1, 3) := by decide +kernel
theorem d1_75 : decode prog_27_method_1_code 75 = .ok (.goto (-34), 3) := by decide +kernel
theorem ef1_0_1 (m : MethodId) (r0 : Addr) (r1 : Addr) (r2 : Addr) (r3 : Addr) : entryFrame m #[(.ref r0), (.ref r1), (.ref r2), (.ref r3), (.int 0), (.int 1)] 11 = mkF m 0 #[.val (.ref r0), .val (.ref r1), .val (.ref r2), .val (.ref r3), .val (.int 0), .val (.int 1), .unset, .unset, .unset, .unset, .unset] [] := by first | (simp [entryFrame, mkF, argsToLocals, Value.category]; done) | rfl
def Q1_0_1 (Z : State) (r0 : Addr) (r1 : Addr) (r2 : Addr) (r3 : Addr) (u0 : Value) (u1 : Value) (u2 : Value) (u3 : Value) (u4 : Value) (u5 : Value) (u6 : Value) (kd : ClassId) (ko : ClassId) (h0 : Heap) (n0 : Nat) (v : Option Value) (h : Heap) (L : List Loc) : Prop := v = none ∧ Fr n0 L ∧ (Keep h0 h [r0]) ∧ (Exa Z h r0 "com/example/buurt/buurt/model/CrossTermFrequencies") ∧ (Fld Z h r0 "com/example/buurt/buurt/model/CrossTermFrequencies" "docs" "[I" (.ref r1)) ∧ (Fld Z h r0 "com/example/buurt/buurt/model/CrossTermFrequencies" "from" "I" (.int 0)) ∧ (Fld Z h r0 "com/example/buurt/buurt/model/CrossTermFrequencies" "to" "I" (.int 1))
set_option maxRecDepth 65536 in
set_option maxHeartbeats 40000000 in
theorem rm1_0_1 (l : Launch) (Z : State) (a0 : Array Value) (hw : ∀ d ∈ tables_1, d.before a0 Z = true) (ws : List Jvm.Cond) (r0 : Addr) (r1 : Addr) (r2 : Addr) (r3 : Addr) (u0 : Value) (u1 : Value) (u2 : Value) (u3 : Value) (u4 : Value) (u5 : Value) (u6 : Value) (kd : ClassId) (ko : ClassId) (h0 : Heap) (n0 : Nat) (Z0 : n0 ≤ h0.size) (F_docs_r0 : Fld Z h0 r0 "com/example/buurt/buurt/model/CrossTermFrequencies" "docs" "[I" u0) (F_tfs_r0 : Fld Z h0 r0 "com/example/buurt/buurt/model/CrossTermFrequencies" "tfs" "[D" u1) (F_occurs_r0 : Fld Z h0 r0 "com/example/buurt/buurt/model/CrossTermFrequencies" "occurs" "[I" u2) (F_from_r0 : Fld Z h0 r0 "com/example/buurt/buurt/model/CrossTermFrequencies" "from" "I" u3) (F_to_r0 : Fld Z h0 r0 "com/example/buurt/buurt/model/CrossTermFrequencies" "to" "I" u4) (F_documentFrequency_r0 : Fld Z h0 r0 "com/example/buurt/buurt/model/CrossTermFrequencies" "documentFrequency" "D" u5) (F_collectionFrequency_r0 : Fld Z h0 r0 "com/example/buurt/buurt/model/CrossTermFrequencies" "collectionFrequency" "D" u6) (E_r0 : Exa Z h0 r0 "com/example/buurt/buurt/model/CrossTermFrequencies") (g_r0 : n0 ≤ r0) (V_r2 : Arv Z h0 r2 kd .double (4 : Int32) [(.double 4607182418800017408), (.double 4611686018427387904), (.double 4613937818241073152), (.double 4616189618054758400)] (.double 0)) (V_r3 : Arv Z h0 r3 ko .int (4 : Int32) [(.int 1), (.int 1), (.int 1), (.int 1)] (.int 0)) (ne_r2_r0 : r2 ≠ r0) (ne_r3_r0 : r3 ≠ r0) :
    MetFree l (⟨"com/example/buurt/buurt/model/CrossTermFrequencies", "<init>", "([I[D[III)V"⟩ : MethodName) (head1 (Jvm.Cond.code (⟨"com/example/buurt/buurt/model/CrossTermFrequencies", "<init>", "([I[D[III)V"⟩ : MethodName) prog_27_method_1_code 11 none :: ws) ({ frames := 1, cells := 0, slots := 0, locals := 12 } : Room)) (fun a U => a = #[(.ref r0), (.ref r1), (.ref r2), (.ref r3), (.int 0), (.int 1)] ∧ Z.Warmed39 U.vm ∧ U.heap = h0) (fun _ _ _ _ _ => True) (fun _ U o U' => ∃ v L, o = .returned v ∧ Q1_0_1 Z r0 r1 r2 r3 u0 u1 u2 u3 u4 u5 u6 kd ko h0 n0 v U'.heap L ∧ FrameEnd U o U' L ({ frames := 1, cells := 0, slots := 0, locals := 12 } : Room).cells ({ frames := 1, cells := 0, slots := 0, locals := 12 } : Room).slots) := by
  refine MetFree.of_bodySF (plainFor_of_name pn0) hisR ?_
  intro p e s m args below meth c s₁ Bd hml0 hP hK
  obtain ⟨rfl, hZ, hh⟩ := hP
  have hx := Bd.exec
  have hby := Bd.bytes
  have hml : c.maxLocals = 11 := hml0
  have hown : s.vm.findClass "com/example/buurt/buurt/model/CrossTermFrequencies" = some m.cls := findClass_of_methodNamed Bd.named
  have hnm := (name_of_methodNamed Bd.named Bd.method).1
  have X0 : Stand p l e ({ frames := 1, cells := 0, slots := 0, locals := 12 } : Room) s m #[(.ref r0), (.ref r1), (.ref r2), (.ref r3), (.int 0), (.int 1)] below meth c s₁ [] 0 0 := Stand.of_body Bd
  have e0 : s₁.heap = h0 := by rw [← hh, Bd.state]; rfl
  have N0 := Fr.nil n0
  have pre0 : ∀ t, Steps p.tables e below (s₁.setTop (mkF m 0 #[.val (.ref r0), .val (.ref r1), .val (.ref r2), .val (.ref r3), .val (.int 0), .val (.int 1), .unset, .unset, .unset, .unset, .unset] [])) t → Steps p.tables e below (s₁.setTop (entryFrame m #[(.ref r0), (.ref r1), (.ref r2), (.ref r3), (.int 0), (.int 1)] 11)) t := fun t k => castTop (ef1_0_1 m r0 r1 r2 r3) k
  obtain ⟨T101, X101, e101, st101⟩ := initO X0 hx hZ hown (own_w hw 12 rfl) (own_w hw 13 rfl) (own_w hw 14 rfl) e0 (g := (mkF m 1 #[.val (.ref r0), .val (.ref r1), .val (.ref r2), .val (.ref r3), .val (.int 0), .val (.int 1), .unset, .unset, .unset, .unset, .unset] [(.ref r0)])) rfl (by rw [hml]; rfl) rfl (hb hby d1_1) (by decide) (W := 0) (by show 2 * 0 + _ ≤ _; exact Nat.le_of_eq rfl) (by decide)
  obtain ⟨T102, h102, X102, e102, W102, st102⟩ := putF X101 hx hZ hown (host := "") (Or.inl (own_w hw 15 rfl)) Via.refl e101 F_docs_r0 E_r0 (Or.inr ⟨(own_w hw 16 rfl), rfl, hnm⟩) (own_w hw 7 rfl) (ty := (.array .int)) (by decide) rfl rfl (g := (mkF m 6 #[.val (.ref r0), .val (.ref r1), .val (.ref r2), .val (.ref r3), .val (.int 0), .val (.int 1), .unset, .unset, .unset, .unset, .unset] [(.ref r1), (.ref r0)])) rfl rfl (hb hby d1_6)
  have Fw102 := F_docs_r0.same W102
  have N102 := Fr.snoc X102 N0 g_r0
  have ZZ103 : n0 ≤ h102.size := Nat.le_trans Z0 (Nat.le_of_eq W102.size.symm)
  have KK104 : Keep h0 h102 [r0] := (Keep.refl h0 [r0]).wr W102 (Or.inl (List.mem_of_getElem? (i := 0) rfl))
  have Fc105 := (F_tfs_r0.other W102 (Or.inr (sn0 hw)))
  obtain ⟨T106, h106, X106, e106, W106, st106⟩ := putF X102 hx hZ hown (host := "") (Or.inl (own_w hw 17 rfl)) Via.refl e102 Fc105 (E_r0.wr W102) (Or.inr ⟨(own_w hw 18 rfl), rfl, hnm⟩) (own_w hw 7 rfl) (ty := (.array .double)) (by decide) rfl rfl (g := (mkF m 11 #[.val (.ref r0), .val (.ref r1), .val (.ref r2), .val (.ref r3), .val (.int 0), .val (.int 1), .unset, .unset, .unset, .unset, .unset] [(.ref r2), (.ref r0)])) rfl rfl (hb hby d1_11)
  have Fw106 := Fc105.same W106
  have N106 := Fr.snoc X106 N102 g_r0
  have ZZ107 : n0 ≤ h106.size := Nat.le_trans ZZ103 (Nat.le_of_eq W106.size.symm)
  have KK108 : Keep h0 h106 [r0] := KK104.wr W106 (Or.inl (List.mem_of_getElem? (i := 0) rfl))
  have Fc109 := ((F_occurs_r0.other W102 (Or.inr (sn1 hw))).other W106 (Or.inr (sn2 hw)))
  obtain ⟨T110, h110, X110, e110, W110, st110⟩ := putF X106 hx hZ hown (host := "") (Or.inl (own_w hw 19 rfl)) Via.refl e106 Fc109 ((E_r0.wr W102).wr W106) (Or.inr ⟨(own_w hw 20 rfl), rfl, hnm⟩) (own_w hw 7 rfl) (ty := (.array .int)) (by decide) rfl rfl (g := (mkF m 16 #[.val (.ref r0), .val (.ref r1), .val (.ref r2), .val (.ref r3), .val (.int 0), .val (.int 1), .unset, .unset, .unset, .unset, .unset] [(.ref r3), (.ref r0)])) rfl rfl (hb hby d1_16)
  have Fw110 := Fc109.same W110
  have N110 := Fr.snoc X110 N106 g_r0
  have ZZ111 : n0 ≤ h110.size := Nat.le_trans ZZ107 (Nat.le_of_eq W110.size.symm)
  have KK112 : Keep h0 h110 [r0] := KK108.wr W110 (Or.inl (List.mem_of_getElem? (i := 0) rfl))
  have Fc113 := (((F_from_r0.other W102 (Or.inr (sn3 hw))).other W106 (Or.inr (sn4 hw))).other W110 (Or.inr (sn5 hw)))
  have Fc114 := (((E_r0.wr W102).wr W106).wr W110)
  obtain ⟨T115, h115, X115, e115, W115, st115⟩ := putF X110 hx hZ hown (host := "") (Or.inl (own_w hw 21 rfl)) Via.refl e110 Fc113 Fc114 (Or.inr ⟨(own_w hw 22 rfl), rfl, hnm⟩) (own_w hw 7 rfl) (ty := .int) (by decide) rfl rfl (g := (mkF m 22 #[.val (.ref r0), .val (.ref r1), .val (.ref r2), .val (.ref r3), .val (.int 0), .val (.int 1), .unset, .unset, .unset, .unset, .unset] [(.int 0), (.ref r0)])) rfl rfl (hb hby d1_22)
  have Fw115 := Fc113.same W115
  have N115 := Fr.snoc X115 N110 g_r0
  have ZZ116 : n0 ≤ h115.size := Nat.le_trans ZZ111 (Nat.le_of_eq W115.size.symm)
  have KK117 : Keep h0 h115 [r0] := KK112.wr W115 (Or.inl (List.mem_of_getElem? (i := 0) rfl))
  have Fc118 := ((((F_to_r0.other W102 (Or.inr (sn6 hw))).other W106 (Or.inr (sn7 hw))).other W110 (Or.inr (sn8 hw))).other W115 (Or.inr (sn9 hw)))
  obtain ⟨T119, h119, X119, e119, W119, st119⟩ := putF X115 hx hZ hown (host := "") (Or.inl (own_w hw 23 rfl)) Via.refl e115 Fc118 (Fc114.wr W115) (Or.inr ⟨(own_w hw 24 rfl), rfl, hnm⟩) (own_w hw 7 rfl) (ty := .int) (by decide) rfl rfl (g := (mkF m 28 #[.val (.ref r0), .val (.ref r1), .val (.ref r2), .val (.ref r3), .val (.int 0), .val (.int 1), .unset, .unset, .unset, .unset, .unset] [(.int 1), (.ref r0)])) rfl rfl (hb hby d1_28)
  have Fw119 := Fc118.same W119
  have N119 := Fr.snoc X119 N115 g_r0
  have ZZ120 : n0 ≤ h119.size := Nat.le_trans ZZ116 (Nat.le_of_eq W119.size.symm)
  have KK121 : Keep h0 h119 [r0] := KK117.wr W119 (Or.inl (List.mem_of_getElem? (i := 0) rfl))
  have Fc122 := (((((V_r2.other W102 ne_r2_r0).other W106 ne_r2_r0).other W110 ne_r2_r0).other W115 ne_r2_r0).other W119 ne_r2_r0)
  obtain ⟨cl123, Ar123, qk123, Sz123, Nz123, Hh123, Gg123⟩ := id Fc122
  have hin123 : ¬ ((0 : Int32) < 0 ∨ cl123.slots.size ≤ ((0 : Int32)).toNatClampNeg) := inb_of Sz123 ⟨by decide, by decide⟩
  have hat123 : cl123.slots[((0 : Int32)).toNatClampNeg]? = some (.double 4607182418800017408) := Has.at Hh123 hin123 rfl
  have Fc124 := (((((V_r3.other W102 ne_r3_r0).other W106 ne_r3_r0).other W110 ne_r3_r0).other W115 ne_r3_r0).other W119 ne_r3_r0)
  obtain ⟨cl125, Ar125, qk125, Sz125, Nz125, Hh125, Gg125⟩ := id Fc124
  have hin125 : ¬ ((0 : Int32) < 0 ∨ cl125.slots.size ≤ ((0 : Int32)).toNatClampNeg) := inb_of Sz125 ⟨by decide, by decide⟩
  have hat125 : cl125.slots[((0 : Int32)).toNatClampNeg]? = some (.int 1) := Has.at Hh125 hin125 rfl
  obtain ⟨cl126, Ar126, qk126, Sz126, Nz126, Hh126, Gg126⟩ := id Fc122
  have hin126 : ¬ ((0 : Int32) < 0 ∨ cl126.slots.size ≤ ((0 : Int32)).toNatClampNeg) := inb_of Sz126 ⟨by decide, by decide⟩
  have hat126 : cl126.slots[((0 : Int32)).toNatClampNeg]? = some (.double 4607182418800017408) := Has.at Hh126 hin126 rfl
  have Fc127 := (((((F_documentFrequency_r0.other W102 (Or.inr (sn10 hw))).other W106 (Or.inr (sn11 hw))).other W110 (Or.inr (sn12 hw))).other W115 (Or.inr (sn13 hw))).other W119 (Or.inr (sn14 hw)))
  have Fc128 := ((Fc114.wr W115).wr W119)
  obtain ⟨T129, h129, X129, e129, W129, st129⟩ := putF X119 hx hZ hown (host := "") (Or.inl (own_w hw 25 rfl)) Via.refl e119 Fc127 Fc128 (Or.inr ⟨(own_w hw 26 rfl), rfl, hnm⟩) (own_w hw 7 rfl) (ty := .double) (by decide) rfl rfl (g := (mkF m 81 #[.val (.ref r0), .val (.ref r1), .val (.ref r2), .val (.ref r3), .val (.int 0), .val (.int 1), .val (.double 4607182418800017408), .second, .val (.double 4607182418800017408), .second, .val (.int 1)] [(.double 4607182418800017408), (.ref r0)])) rfl rfl (hb hby d1_81)
  have Fw129 := Fc127.same W129
  have N129 := Fr.snoc X129 N119 g_r0
  have ZZ130 : n0 ≤ h129.size := Nat.le_trans ZZ120 (Nat.le_of_eq W129.size.symm)
  have KK131 : Keep h0 h129 [r0] := KK121.wr W129 (Or.inl (List.mem_of_getElem? (i := 0) rfl))
  have Fc132 := ((((((F_collectionFrequency_r0.other W102 (Or.inr (sn15 hw))).other W106 (Or.inr (sn16 hw))).other W110 (Or.inr (sn17 hw))).other W115 (Or.inr (sn18 hw))).other W119 (Or.inr (sn19 hw))).other W129 (Or.inr (sn20 hw)))
  obtain ⟨T133, h133, X133, e133, W133, st133⟩ := putF X129 hx hZ hown (host := "") (Or.inl (own_w hw 27 rfl)) Via.refl e129 Fc132 (Fc128.wr W129) (Or.inr ⟨(own_w hw 28 rfl), rfl, hnm⟩) (own_w hw 7 rfl) (ty := .double) (by decide) rfl rfl (g := (mkF m 87 #[.val (.ref r0), .val (.ref r1), .val (.ref r2), .val (.ref r3), .val (.int 0), .val (.int 1), .val (.double 4607182418800017408), .second, .val (.double 4607182418800017408), .second, .val (.int 1)] [(.double 4607182418800017408), (.ref r0)])) rfl rfl (hb hby d1_87)
  have Fw133 := Fc132.same W133
  have N133 := Fr.snoc X133 N129 g_r0
  have ZZ134 : n0 ≤ h133.size := Nat.le_trans ZZ130 (Nat.le_of_eq W133.size.symm)
  have KK135 : Keep h0 h133 [r0] := KK131.wr W133 (Or.inl (List.mem_of_getElem? (i := 0) rfl))
  obtain ⟨fs, hr, hrun, hended, hW, hsame⟩ := X133.leave (v := none) (fun _ => rfl)
  refine ⟨_, _, pre0 _ ?_, hrun, hended, _, _, rfl, ?_, ⟨_, rfl⟩, hW, hsame.mono (by decide) (by decide)⟩
  · show own_S p e below s₁ m 0 #[oR r0, oR r1, oR r2, oR r3, oI 0, oI 1, oU, oU, oU, oU, oU] [] _
    refine XS.aloadN X0.here hx rfl (hb hby d1_0) rfl rfl ?_
    show own_S p e below s₁ m 1 #[oR r0, oR r1, oR r2, oR r3, oI 0, oI 1, oU, oU, oU, oU, oU] [(.ref r0)] _
    refine st101 _ ?_
    show own_S p e below T101 m 4 #[oR r0, oR r1, oR r2, oR r3, oI 0, oI 1, oU, oU, oU, oU, oU] [] _
    refine XS.aloadN X101.here hx rfl (hb hby d1_4) rfl rfl ?_
    show own_S p e below T101 m 5 #[oR r0, oR r1, oR r2, oR r3, oI 0, oI 1, oU, oU, oU, oU, oU] [(.ref r0)] _
    refine XS.aloadN X101.here hx rfl (hb hby d1_5) rfl rfl ?_
    show own_S p e below T101 m 6 #[oR r0, oR r1, oR r2, oR r3, oI 0, oI 1, oU, oU, oU, oU, oU] [(.ref r1), (.ref r0)] _
    refine st102 _ ?_
    show own_S p e below T102 m 9 #[oR r0, oR r1, oR r2, oR r3, oI 0, oI 1, oU, oU, oU, oU, oU] [] _
    refine XS.aloadN X102.here hx rfl (hb hby d1_9) rfl rfl ?_
    show own_S p e below T102 m 10 #[oR r0, oR r1, oR r2, oR r3, oI 0, oI 1, oU, oU, oU, oU, oU] [(.ref r0)] _
    refine XS.aloadN X102.here hx rfl (hb hby d1_10) rfl rfl ?_
    show own_S p e below T102 m 11 #[oR r0, oR r1, oR r2, oR r3, oI 0, oI 1, oU, oU, oU, oU, oU] [(.ref r2), (.ref r0)] _
    refine st106 _ ?_
    show own_S p e below T106 m 14 #[oR r0, oR r1, oR r2, oR r3, oI 0, oI 1, oU, oU, oU, oU, oU] [] _
    refine XS.aloadN X106.here hx rfl (hb hby d1_14) rfl rfl ?_
    show own_S p e below T106 m 15 #[oR r0, oR r1, oR r2, oR r3, oI 0, oI 1, oU, oU, oU, oU, oU] [(.ref r0)] _
    refine XS.aloadN X106.here hx rfl (hb hby d1_15) rfl rfl ?_
    show own_S p e below T106 m 16 #[oR r0, oR r1, oR r2, oR r3, oI 0, oI 1, oU, oU, oU, oU, oU] [(.ref r3), (.ref r0)] _
    refine st110 _ ?_
    show own_S p e below T110 m 19 #[oR r0, oR r1, oR r2, oR r3, oI 0, oI 1, oU, oU, oU, oU, oU] [] _
    refine XS.aloadN X110.here hx rfl (hb hby d1_19) rfl rfl ?_
    show own_S p e below T110 m 20 #[oR r0, oR r1, oR r2, oR r3, oI 0, oI 1, oU, oU, oU, oU, oU] [(.ref r0)] _
    refine XS.iload X110.here hx rfl (hb hby d1_20) rfl ?_
    show own_S p e below T110 m 22 #[oR r0, oR r1, oR r2, oR r3, oI 0, oI 1, oU, oU, oU, oU, oU] [(.int 0), (.ref r0)] _
    refine st115 _ ?_
    show own_S p e below T115 m 25 #[oR r0, oR r1, oR r2, oR r3, oI 0, oI 1, oU, oU, oU, oU, oU] [] _
    refine XS.aloadN X115.here hx rfl (hb hby d1_25) rfl rfl ?_
    show own_S p e below T115 m 26 #[oR r0, oR r1, oR r2, oR r3, oI 0, oI 1, oU, oU, oU, oU, oU] [(.ref r0)] _
    refine XS.iload X115.here hx rfl (hb hby d1_26) rfl ?_
    show own_S p e below T115 m 28 #[oR r0, oR r1, oR r2, oR r3, oI 0, oI 1, oU, oU, oU, oU, oU] [(.int 1), (.ref r0)] _
    refine st119 _ ?_
    show own_S p e below T119 m 31 #[oR r0, oR r1, oR r2, oR r3, oI 0, oI 1, oU, oU, oU, oU, oU] [] _
    refine XS.dconst0 X119.here hx rfl (v := 0) (hb hby d1_31) rfl ?_
    show own_S p e below T119 m 32 #[oR r0, oR r1, oR r2, oR r3, oI 0, oI 1, oU, oU, oU, oU, oU] [(.double 0)] _
    refine XS.dstore X119.here hx rfl (hb hby d1_32) rfl (l' := #[.val (.ref r0), .val (.ref r1), .val (.ref r2), .val (.ref r3), .val (.int 0), .val (.int 1), .val (.double 0), .second, .unset, .unset, .unset]) rfl ?_
    show own_S p e below T119 m 34 #[oR r0, oR r1, oR r2, oR r3, oI 0, oI 1, oD 0, oV, oU, oU, oU] [] _
    refine XS.dconst0 X119.here hx rfl (v := 0) (hb hby d1_34) rfl ?_
    show own_S p e below T119 m 35 #[oR r0, oR r1, oR r2, oR r3, oI 0, oI 1, oD 0, oV, oU, oU, oU] [(.double 0)] _
    refine XS.dstore X119.here hx rfl (hb hby d1_35) rfl (l' := #[.val (.ref r0), .val (.ref r1), .val (.ref r2), .val (.ref r3), .val (.int 0), .val (.int 1), .val (.double 0), .second, .val (.double 0), .second, .unset]) rfl ?_
    show own_S p e below T119 m 37 #[oR r0, oR r1, oR r2, oR r3, oI 0, oI 1, oD 0, oV, oD 0, oV, oU] [] _
    refine XS.iload X119.here hx rfl (hb hby d1_37) rfl ?_
    show own_S p e below T119 m 39 #[oR r0, oR r1, oR r2, oR r3, oI 0, oI 1, oD 0, oV, oD 0, oV, oU] [(.int 0)] _
    refine XS.istore X119.here hx rfl (hb hby d1_39) rfl (l' := #[.val (.ref r0), .val (.ref r1), .val (.ref r2), .val (.ref r3), .val (.int 0), .val (.int 1), .val (.double 0), .second, .val (.double 0), .second, .val (.int 0)]) rfl ?_
    show own_S p e below T119 m 41 #[oR r0, oR r1, oR r2, oR r3, oI 0, oI 1, oD 0, oV, oD 0, oV, oI 0] [] _
    refine XS.iload X119.here hx rfl (hb hby d1_41) rfl ?_
    show own_S p e below T119 m 43 #[oR r0, oR r1, oR r2, oR r3, oI 0, oI 1, oD 0, oV, oD 0, oV, oI 0] [(.int 0)] _
    refine XS.iload X119.here hx rfl (hb hby d1_43) rfl ?_
    show own_S p e below T119 m 45 #[oR r0, oR r1, oR r2, oR r3, oI 0, oI 1, oD 0, oV, oD 0, oV, oI 0] [(.int 1), (.int 0)] _
    refine XS.icmpNo X119.here hx rfl (hb hby d1_45) rfl (tlt (by decide : (0 : Int32) < (1 : Int32))).2.1 ?_
    show own_S p e below T119 m 48 #[oR r0, oR r1, oR r2, oR r3, oI 0, oI 1, oD 0, oV, oD 0, oV, oI 0] [] _
    refine XS.dload X119.here hx rfl (hb hby d1_48) rfl ?_
    show own_S p e below T119 m 50 #[oR r0, oR r1, oR r2, oR r3, oI 0, oI 1, oD 0, oV, oD 0, oV, oI 0] [(.double 0)] _
    refine XS.aloadN X119.here hx rfl (hb hby d1_50) rfl rfl ?_
    show own_S p e below T119 m 51 #[oR r0, oR r1, oR r2, oR r3, oI 0, oI 1, oD 0, oV, oD 0, oV, oI 0] [(.ref r2), (.double 0)] _
    refine XS.iload X119.here hx rfl (hb hby d1_51) rfl ?_
    show own_S p e below T119 m 53 #[oR r0, oR r1, oR r2, oR r3, oI 0, oI 1, oD 0, oV, oD 0, oV, oI 0] [(.int 0), (.ref r2), (.double 0)] _
    refine X119.daload hx (j := (0 : Int32)) (v := (.double 4607182418800017408)) (by rw [e119]; exact Ar123.1) (State.isArrayOf_alike hZ.alike Ar123.2.1) Ar123.2.2 hin123 hat123 (g := (mkF m 53 #[.val (.ref r0), .val (.ref r1), .val (.ref r2), .val (.ref r3), .val (.int 0), .val (.int 1), .val (.double 0), .second, .val (.double 0), .second, .val (.int 0)] [(.int 0), (.ref r2), (.double 0)])) rfl rfl (hb hby d1_53) _ ?_
    show own_S p e below T119 m 54 #[oR r0, oR r1, oR r2, oR r3, oI 0, oI 1, oD 0, oV, oD 0, oV, oI 0] [(.double 4607182418800017408), (.double 0)] _
    refine XS.aloadN X119.here hx rfl (hb hby d1_54) rfl rfl ?_
    show own_S p e below T119 m 55 #[oR r0, oR r1, oR r2, oR r3, oI 0, oI 1, oD 0, oV, oD 0, oV, oI 0] [(.ref r3), (.double 4607182418800017408), (.double 0)] _
    refine XS.iload X119.here hx rfl (hb hby d1_55) rfl ?_
    show own_S p e below T119 m 57 #[oR r0, oR r1, oR r2, oR r3, oI 0, oI 1, oD 0, oV, oD 0, oV, oI 0] [(.int 0), (.ref r3), (.double 4607182418800017408), (.double 0)] _
    refine X119.iaload hx (j := (0 : Int32)) (v := (.int 1)) (by rw [e119]; exact Ar125.1) (State.isArrayOf_alike hZ.alike Ar125.2.1) Ar125.2.2 hin125 hat125 (g := (mkF m 57 #[.val (.ref r0), .val (.ref r1), .val (.ref r2), .val (.ref r3), .val (.int 0), .val (.int 1), .val (.double 0), .second, .val (.double 0), .second, .val (.int 0)] [(.int 0), (.ref r3), (.double 4607182418800017408), (.double 0)])) rfl rfl (hb hby d1_57) _ ?_
    show own_S p e below T119 m 58 #[oR r0, oR r1, oR r2, oR r3, oI 0, oI 1, oD 0, oV, oD 0, oV, oI 0] [(.int 1), (.double 4607182418800017408), (.double 0)] _
    refine XS.i2dS X119.here hx rfl (v := (4607182418800017408 : UInt64)) (hb hby d1_58) rfl (by decide +kernel) ?_
    show own_S p e below T119 m 59 #[oR r0, oR r1, oR r2, oR r3, oI 0, oI 1, oD 0, oV, oD 0, oV, oI 0] [(.double 4607182418800017408), (.double 4607182418800017408), (.double 0)] _
    refine XS.ddivS X119.here hx rfl (v := (4607182418800017408 : UInt64)) (hb hby d1_59) rfl (own_nnl (by decide +kernel : FP.ddiv (4607182418800017408 : UInt64) (4607182418800017408 : UInt64) = (4607182418800017408 : UInt64)) (by unfold NoNaN64; decide)) (by decide +kernel) ?_
    show own_S p e below T119 m 60 #[oR r0, oR r1, oR r2, oR r3, oI 0, oI 1, oD 0, oV, oD 0, oV, oI 0] [(.double 4607182418800017408), (.double 0)] _
    refine XS.daddS X119.here hx rfl (v := (4607182418800017408 : UInt64)) (hb hby d1_60) rfl (own_nnl (by decide +kernel : FP.dadd (0 : UInt64) (4607182418800017408 : UInt64) = (4607182418800017408 : UInt64)) (by unfold NoNaN64; decide)) (by decide +kernel) ?_
    show own_S p e below T119 m 61 #[oR r0, oR r1, oR r2, oR r3, oI 0, oI 1, oD 0, oV, oD 0, oV, oI 0] [(.double 4607182418800017408)] _
    refine XS.dstore X119.here hx rfl (hb hby d1_61) rfl (l' := #[.val (.ref r0), .val (.ref r1), .val (.ref r2), .val (.ref r3), .val (.int 0), .val (.int 1), .val (.double 4607182418800017408), .second, .val (.double 0), .second, .val (.int 0)]) rfl ?_
    show own_S p e below T119 m 63 #[oR r0, oR r1, oR r2, oR r3, oI 0, oI 1, oD 4607182418800017408, oV, oD 0, oV, oI 0] [] _
    refine XS.dload X119.here hx rfl (hb hby d1_63) rfl ?_
    show own_S p e below T119 m 65 #[oR r0, oR r1, oR r2, oR r3, oI 0, oI 1, oD 4607182418800017408, oV, oD 0, oV, oI 0] [(.double 0)] _
    refine XS.aloadN X119.here hx rfl (hb hby d1_65) rfl rfl ?_
    show own_S p e below T119 m 66 #[oR r0, oR r1, oR r2, oR r3, oI 0, oI 1, oD 4607182418800017408, oV, oD 0, oV, oI 0] [(.ref r2), (.double 0)] _
    refine XS.iload X119.here hx rfl (hb hby d1_66) rfl ?_
    show own_S p e below T119 m 68 #[oR r0, oR r1, oR r2, oR r3, oI 0, oI 1, oD 4607182418800017408, oV, oD 0, oV, oI 0] [(.int 0), (.ref r2), (.double 0)] _
    refine X119.daload hx (j := (0 : Int32)) (v := (.double 4607182418800017408)) (by rw [e119]; exact Ar126.1) (State.isArrayOf_alike hZ.alike Ar126.2.1) Ar126.2.2 hin126 hat126 (g := (mkF m 68 #[.val (.ref r0), .val (.ref r1), .val (.ref r2), .val (.ref r3), .val (.int 0), .val (.int 1), .val (.double 4607182418800017408), .second, .val (.double 0), .second, .val (.int 0)] [(.int 0), (.ref r2), (.double 0)])) rfl rfl (hb hby d1_68) _ ?_
    show own_S p e below T119 m 69 #[oR r0, oR r1, oR r2, oR r3, oI 0, oI 1, oD 4607182418800017408, oV, oD 0, oV, oI 0] [(.double 4607182418800017408), (.double 0)] _
    refine XS.daddS X119.here hx rfl (v := (4607182418800017408 : UInt64)) (hb hby d1_69) rfl (own_nnl (by decide +kernel : FP.dadd (0 : UInt64) (4607182418800017408 : UInt64) = (4607182418800017408 : UInt64)) (by unfold NoNaN64; decide)) (by decide +kernel) ?_
    show own_S p e below T119 m 70 #[oR r0, oR r1, oR r2, oR r3, oI 0, oI 1, oD 4607182418800017408, oV, oD 0, oV, oI 0] [(.double 4607182418800017408)] _
    refine XS.dstore X119.here hx rfl (hb hby d1_70) rfl (l' := #[.val (.ref r0), .val (.ref r1), .val (.ref r2), .val (.ref r3), .val (.int 0), .val (.int 1), .val (.double 4607182418800017408), .second, .val (.double 4607182418800017408), .second, .val (.int 0)]) rfl ?_
    show own_S p e below T119 m 72 #[oR r0, oR r1, oR r2, oR r3, oI 0, oI 1, oD 4607182418800017408, oV, oD 4607182418800017408, oV, oI 0] [] _
    refine XS.iinc X119.here hx rfl (hb hby d1_72) rfl (l' := #[.val (.ref r0), .val (.ref r1), .val (.ref r2), .val (.ref r3), .val (.int 0), .val (.int 1), .val (.double 4607182418800017408), .second, .val (.double 4607182418800017408), .second, .val (.int 1)]) rfl ?_
    show own_S p e below T119 m 75 #[oR r0, oR r1, oR r2, oR r3, oI 0, oI 1, oD 4607182418800017408, oV, oD 4607182418800017408, oV, oI 1] [] _
    refine XS.goto X119.here hx rfl (pc0 := 75) (pc' := 41) rfl (hb hby d1_75) (by decide) (by decide) ?_
    show own_S p e below T119 m 41 #[oR r0, oR r1, oR r2, oR r3, oI 0, oI 1, oD 4607182418800017408, oV, oD 4607182418800017408, oV, oI 1] [] _
    refine XS.iload X119.here hx rfl (hb hby d1_41) rfl ?_
    show own_S p e below T119 m 43 #[oR r0, oR r1, oR r2, oR r3, oI 0, oI 1, oD 4607182418800017408, oV, oD 4607182418800017408, oV, oI 1] [(.int 1)] _
    refine XS.iload X119.here hx rfl (hb hby d1_43) rfl ?_
    show own_S p e below T119 m 45 #[oR r0, oR r1, oR r2, oR r3, oI 0, oI 1, oD 4607182418800017408, oV, oD 4607182418800017408, oV, oI 1] [(.int 1), (.int 1)] _
    refine XS.icmpYes X119.here hx rfl (pc0 := 45) (pc' := 78) rfl (hb hby d1_45) rfl (flt (by decide : ¬ ((1 : Int32) < (1 : Int32)))).2.1 (by decide) (by decide) ?_
    show own_S p e below T119 m 78 #[oR r0, oR r1, oR r2, oR r3, oI 0, oI 1, oD 4607182418800017408, oV, oD 4607182418800017408, oV, oI 1] [] _
    refine XS.aloadN X119.here hx rfl (hb hby d1_78) rfl rfl ?_
    show own_S p e below T119 m 79 #[oR r0, oR r1, oR r2, oR r3, oI 0, oI 1, oD 4607182418800017408, oV, oD 4607182418800017408, oV, oI 1] [(.ref r0)] _
    refine XS.dload X119.here hx rfl (hb hby d1_79) rfl ?_
    show own_S p e below T119 m 81 #[oR r0, oR r1, oR r2, oR r3, oI 0, oI 1, oD 4607182418800017408, oV, oD 4607182418800017408, oV, oI 1] [(.double 4607182418800017408), (.ref r0)] _
    refine st129 _ ?_
    show own_S p e below T129 m 84 #[oR r0, oR r1, oR r2, oR r3, oI 0, oI 1, oD 4607182418800017408, oV, oD 4607182418800017408, oV, oI 1] [] _
    refine XS.aloadN X129.here hx rfl (hb hby d1_84) rfl rfl ?_
    show own_S p e below T129 m 85 #[oR r0, oR r1, oR r2, oR r3, oI 0, oI 1, oD 4607182418800017408, oV, oD 4607182418800017408, oV, oI 1] [(.ref r0)] _
    refine XS.dload X129.here hx rfl (hb hby d1_85) rfl ?_
    show own_S p e below T129 m 87 #[oR r0, oR r1, oR r2, oR r3, oI 0, oI 1, oD 4607182418800017408, oV, oD 4607182418800017408, oV, oI 1] [(.double 4607182418800017408), (.ref r0)] _
    refine st133 _ ?_
    show own_S p e below T133 m 90 #[oR r0, oR r1, oR r2, oR r3, oI 0, oI 1, oD 4607182418800017408, oV, oD 4607182418800017408, oV, oI 1] [] _
    exact X133.returnOut hx Bd.returns (hb hby d1_90) hr
  · show Q1_0_1 Z r0 r1 r2 r3 u0 u1 u2 u3 u4 u5 u6 kd ko h0 n0 _ T133.heap _
    rw [e133]
    exact ⟨rfl, N133, KK135, ((Fc128.wr W129).wr W133), ((((((Fw102.other W106 (Or.inr (sn21 hw))).other W110 (Or.inr (sn22 hw))).other W115 (Or.inr (sn23 hw))).other W119 (Or.inr (sn24 hw))).other W129 (Or.inr (sn25 hw))).other W133 (Or.inr (sn26 hw))), (((Fw115.other W119 (Or.inr (sn27 hw))).other W129 (Or.inr (sn28 hw))).other W133 (Or.inr (sn29 hw))), ((Fw119.other W129 (Or.inr (sn30 hw))).other W133 (Or.inr (sn31 hw)))⟩
theorem ef1_0_2 (m : MethodId) (r0 : Addr) (r1 : Addr) (r2 : Addr) (r3 : Addr) : entryFrame m #[(.ref r0), (.ref r1), (.ref r2), (.ref r3), (.int 0), (.int 2)] 11 = mkF m 0 #[.val (.ref r0), .val (.ref r1), .val (.ref r2), .val (.ref r3), .val (.int 0), .val (.int 2), .unset, .unset, .unset, .unset, .unset] [] := by first | (simp [entryFrame, mkF, argsToLocals, Value.category]; done) | rfl
def Q1_0_2 (Z : State) (r0 : Addr) (r1 : Addr) (r2 : Addr) (r3 : Addr) (u0 : Value) (u1 : Value) (u2 : Value) (u3 : Value) (u4 : Value) (u5 : Value) (u6 : Value) (kd : ClassId) (ko : ClassId) (h0 : Heap) (n0 : Nat) (v : Option Value) (h : Heap) (L : List Loc) : Prop := v = none ∧ Fr n0 L ∧ (Keep h0 h [r0]) ∧ (Exa Z h r0 "com/example/buurt/buurt/model/CrossTermFrequencies") ∧ (Fld Z h r0 "com/example/buurt/buurt/model/CrossTermFrequencies" "docs" "[I" (.ref r1)) ∧ (Fld Z h r0 "com/example/buurt/buurt/model/CrossTermFrequencies" "from" "I" (.int 0)) ∧ (Fld Z h r0 "com/example/buurt/buurt/model/CrossTermFrequencies" "to" "I" (.int 2))
set_option maxRecDepth 65536 in
set_option maxHeartbeats 40000000 in
theorem rm1_0_2 (l : Launch) (Z : State) (a0 : Array Value) (hw : ∀ d ∈ tables_1, d.before a0 Z = true) (ws : List Jvm.Cond) (r0 : Addr) (r1 : Addr) (r2 : Addr) (r3 : Addr) (u0 : Value) (u1 : Value) (u2 : Value) (u3 : Value) (u4 : Value) (u5 : Value) (u6 : Value) (kd : ClassId) (ko : ClassId) (h0 : Heap) (n0 : Nat) (Z0 : n0 ≤ h0.size) (F_docs_r0 : Fld Z h0 r0 "com/example/buurt/buurt/model/CrossTermFrequencies" "docs" "[I" u0) (F_tfs_r0 : Fld Z h0 r0 "com/example/buurt/buurt/model/CrossTermFrequencies" "tfs" "[D" u1) (F_occurs_r0 : Fld Z h0 r0 "com/example/buurt/buurt/model/CrossTermFrequencies" "occurs" "[I" u2) (F_from_r0 : Fld Z h0 r0 "com/example/buurt/buurt/model/CrossTermFrequencies" "from" "I" u3) (F_to_r0 : Fld Z h0 r0 "com/example/buurt/buurt/model/CrossTermFrequencies" "to" "I" u4) (F_documentFrequency_r0 : Fld Z h0 r0 "com/example/buurt/buurt/model/CrossTermFrequencies" "documentFrequency" "D" u5) (F_collectionFrequency_r0 : Fld Z h0 r0 "com/example/buurt/buurt/model/CrossTermFrequencies" "collectionFrequency" "D" u6) (E_r0 : Exa Z h0 r0 "com/example/buurt/buurt/model/CrossTermFrequencies") (g_r0 : n0 ≤ r0) (V_r2 : Arv Z h0 r2 kd .double (4 : Int32) [(.double 4607182418800017408), (.double 4611686018427387904), (.double 4613937818241073152), (.double 4616189618054758400)] (.double 0)) (V_r3 : Arv Z h0 r3 ko .int (4 : Int32) [(.int 1), (.int 1), (.int 1), (.int 1)] (.int 0)) (ne_r2_r0 : r2 ≠ r0) (ne_r3_r0 : r3 ≠ r0) :
    MetFree l (⟨"com/example/buurt/buurt/model/CrossTermFrequencies", "<init>", "([I[D[III)V"⟩ : MethodName) (head1 (Jvm.Cond.code (⟨"com/example/buurt/buurt/model/CrossTermFrequencies", "<init>", "([I[D[III)V"⟩ : MethodName) prog_27_method_1_code 11 none :: ws) ({ frames := 1, cells := 0, slots := 0, locals := 12 } : Room)) (fun a U => a = #[(.ref r0), (.ref r1), (.ref r2), (.ref r3), (.int 0), (.int 2)] ∧ Z.Warmed39 U.vm ∧ U.heap = h0) (fun _ _ _ _ _ => True) (fun _ U o U' => ∃ v L, o = .returned v ∧ Q1_0_2 Z r0 r1 r2 r3 u0 u1 u2 u3 u4 u5 u6 kd ko h0 n0 v U'.heap L ∧ FrameEnd U o U' L ({ frames := 1, cells := 0, slots := 0, locals := 12 } : Room).cells ({ frames := 1, cells := 0, slots := 0, locals := 12 } : Room).slots) := by
  refine MetFree.of_bodySF (plainFor_of_name pn0) hisR ?_
  intro p e s m args below meth c s₁ Bd hml0 hP hK
  obtain ⟨rfl, hZ, hh⟩ := hP
  have hx := Bd.exec
  have hby := Bd.bytes
  have hml : c.maxLocals = 11 := hml0
  have hown : s.vm.findClass "com/example/buurt/buurt/model/CrossTermFrequencies" = some m.cls := findClass_of_methodNamed Bd.named
  have hnm := (name_of_methodNamed Bd.named Bd.method).1
  have X0 : Stand p l e ({ frames := 1, cells := 0, slots := 0, locals := 12 } : Room) s m #[(.ref r0), (.ref r1), (.ref r2), (.ref r3), (.int 0), (.int 2)] below meth c s₁ [] 0 0 := Stand.of_body Bd
  have e0 : s₁.heap = h0 := by rw [← hh, Bd.state]; rfl
  have N0 := Fr.nil n0
  have pre0 : ∀ t, Steps p.tables e below (s₁.setTop (mkF m 0 #[.val (.ref r0), .val (.ref r1), .val (.ref r2), .val (.ref r3), .val (.int 0), .val (.int 2), .unset, .unset, .unset, .unset, .unset] [])) t → Steps p.tables e below (s₁.setTop (entryFrame m #[(.ref r0), (.ref r1), (.ref r2), (.ref r3), (.int 0), (.int 2)] 11)) t := fun t k => castTop (ef1_0_2 m r0 r1 r2 r3) k
  obtain ⟨T101, X101, e101, st101⟩ := initO X0 hx hZ hown (own_w hw 12 rfl) (own_w hw 13 rfl) (own_w hw 14 rfl) e0 (g := (mkF m 1 #[.val (.ref r0), .val (.ref r1), .val (.ref r2), .val (.ref r3), .val (.int 0), .val (.int 2), .unset, .unset, .unset, .unset, .unset] [(.ref r0)])) rfl (by rw [hml]; rfl) rfl (hb hby d1_1) (by decide) (W := 0) (by show 2 * 0 + _ ≤ _; exact Nat.le_of_eq rfl) (by decide)
  obtain ⟨T102, h102, X102, e102, W102, st102⟩ := putF X101 hx hZ hown (host := "") (Or.inl (own_w hw 15 rfl)) Via.refl e101 F_docs_r0 E_r0 (Or.inr ⟨(own_w hw 16 rfl), rfl, hnm⟩) (own_w hw 7 rfl) (ty := (.array .int)) (by decide) rfl rfl (g := (mkF m 6 #[.val (.ref r0), .val (.ref r1), .val (.ref r2), .val (.ref r3), .val (.int 0), .val (.int 2), .unset, .unset, .unset, .unset, .unset] [(.ref r1), (.ref r0)])) rfl rfl (hb hby d1_6)
  have Fw102 := F_docs_r0.same W102
  have N102 := Fr.snoc X102 N0 g_r0
  have ZZ103 : n0 ≤ h102.size := Nat.le_trans Z0 (Nat.le_of_eq W102.size.symm)
  have KK104 : Keep h0 h102 [r0] := (Keep.refl h0 [r0]).wr W102 (Or.inl (List.mem_of_getElem? (i := 0) rfl))
  have Fc105 := (F_tfs_r0.other W102 (Or.inr (sn0 hw)))
  obtain ⟨T106, h106, X106, e106, W106, st106⟩ := putF X102 hx hZ hown (host := "") (Or.inl (own_w hw 17 rfl)) Via.refl e102 Fc105 (E_r0.wr W102) (Or.inr ⟨(own_w hw 18 rfl), rfl, hnm⟩) (own_w hw 7 rfl) (ty := (.array .double)) (by decide) rfl rfl (g := (mkF m 11 #[.val (.ref r0), .val (.ref r1), .val (.ref r2), .val (.ref r3), .val (.int 0), .val (.int 2), .unset, .unset, .unset, .unset, .unset] [(.ref r2), (.ref r0)])) rfl rfl (hb hby d1_11)
  have Fw106 := Fc105.same W106
  have N106 := Fr.snoc X106 N102 g_r0
  have ZZ107 : n0 ≤ h106.size := Nat.le_trans ZZ103 (Nat.le_of_eq W106.size.symm)
  have KK108 : Keep h0 h106 [r0] := KK104.wr W106 (Or.inl (List.mem_of_getElem? (i := 0) rfl))
  have Fc109 := ((F_occurs_r0.other W102 (Or.inr (sn1 hw))).other W106 (Or.inr (sn2 hw)))
  obtain ⟨T110, h110, X110, e110, W110, st110⟩ := putF X106 hx hZ hown (host := "") (Or.inl (own_w hw 19 rfl)) Via.refl e106 Fc109 ((E_r0.wr W102).wr W106) (Or.inr ⟨(own_w hw 20 rfl), rfl, hnm⟩) (own_w hw 7 rfl) (ty := (.array .int)) (by decide) rfl rfl (g := (mkF m 16 #[.val (.ref r0), .val (.ref r1), .val (.ref r2), .val (.ref r3), .val (.int 0), .val (.int 2), .unset, .unset, .unset, .unset, .unset] [(.ref r3), (.ref r0)])) rfl rfl (hb hby d1_16)
  have Fw110 := Fc109.same W110
  have N110 := Fr.snoc X110 N106 g_r0
  have ZZ111 : n0 ≤ h110.size := Nat.le_trans ZZ107 (Nat.le_of_eq W110.size.symm)
  have KK112 : Keep h0 h110 [r0] := KK108.wr W110 (Or.inl (List.mem_of_getElem? (i := 0) rfl))
  have Fc113 := (((F_from_r0.other W102 (Or.inr (sn3 hw))).other W106 (Or.inr (sn4 hw))).other W110 (Or.inr (sn5 hw)))
  have Fc114 := (((E_r0.wr W102).wr W106).wr W110)
  obtain ⟨T115, h115, X115, e115, W115, st115⟩ := putF X110 hx hZ hown (host := "") (Or.inl (own_w hw 21 rfl)) Via.refl e110 Fc113 Fc114 (Or.inr ⟨(own_w hw 22 rfl), rfl, hnm⟩) (own_w hw 7 rfl) (ty := .int) (by decide) rfl rfl (g := (mkF m 22 #[.val (.ref r0), .val (.ref r1), .val (.ref r2), .val (.ref r3), .val (.int 0), .val (.int 2), .unset, .unset, .unset, .unset, .unset] [(.int 0), (.ref r0)])) rfl rfl (hb hby d1_22)
  have Fw115 := Fc113.same W115
  have N115 := Fr.snoc X115 N110 g_r0
  have ZZ116 : n0 ≤ h115.size := Nat.le_trans ZZ111 (Nat.le_of_eq W115.size.symm)
  have KK117 : Keep h0 h115 [r0] := KK112.wr W115 (Or.inl (List.mem_of_getElem? (i := 0) rfl))
  have Fc118 := ((((F_to_r0.other W102 (Or.inr (sn6 hw))).other W106 (Or.inr (sn7 hw))).other W110 (Or.inr (sn8 hw))).other W115 (Or.inr (sn9 hw)))
  obtain ⟨T119, h119, X119, e119, W119, st119⟩ := putF X115 hx hZ hown (host := "") (Or.inl (own_w hw 23 rfl)) Via.refl e115 Fc118 (Fc114.wr W115) (Or.inr ⟨(own_w hw 24 rfl), rfl, hnm⟩) (own_w hw 7 rfl) (ty := .int) (by decide) rfl rfl (g := (mkF m 28 #[.val (.ref r0), .val (.ref r1), .val (.ref r2), .val (.ref r3), .val (.int 0), .val (.int 2), .unset, .unset, .unset, .unset, .unset] [(.int 2), (.ref r0)])) rfl rfl (hb hby d1_28)
  have Fw119 := Fc118.same W119
  have N119 := Fr.snoc X119 N115 g_r0
  have ZZ120 : n0 ≤ h119.size := Nat.le_trans ZZ116 (Nat.le_of_eq W119.size.symm)
  have KK121 : Keep h0 h119 [r0] := KK117.wr W119 (Or.inl (List.mem_of_getElem? (i := 0) rfl))
  have Fc122 := (((((V_r2.other W102 ne_r2_r0).other W106 ne_r2_r0).other W110 ne_r2_r0).other W115 ne_r2_r0).other W119 ne_r2_r0)
  obtain ⟨cl123, Ar123, qk123, Sz123, Nz123, Hh123, Gg123⟩ := id Fc122
  have hin123 : ¬ ((0 : Int32) < 0 ∨ cl123.slots.size ≤ ((0 : Int32)).toNatClampNeg) := inb_of Sz123 ⟨by decide, by decide⟩
  have hat123 : cl123.slots[((0 : Int32)).toNatClampNeg]? = some (.double 4607182418800017408) := Has.at Hh123 hin123 rfl
  have Fc124 := (((((V_r3.other W102 ne_r3_r0).other W106 ne_r3_r0).other W110 ne_r3_r0).other W115 ne_r3_r0).other W119 ne_r3_r0)
  obtain ⟨cl125, Ar125, qk125, Sz125, Nz125, Hh125, Gg125⟩ := id Fc124
  have hin125 : ¬ ((0 : Int32) < 0 ∨ cl125.slots.size ≤ ((0 : Int32)).toNatClampNeg) := inb_of Sz125 ⟨by decide, by decide⟩
  have hat125 : cl125.slots[((0 : Int32)).toNatClampNeg]? = some (.int 1) := Has.at Hh125 hin125 rfl
  obtain ⟨cl126, Ar126, qk126, Sz126, Nz126, Hh126, Gg126⟩ := id Fc122
  have hin126 : ¬ ((0 : Int32) < 0 ∨ cl126.slots.size ≤ ((0 : Int32)).toNatClampNeg) := inb_of Sz126 ⟨by decide, by decide⟩
  have hat126 : cl126.slots[((0 : Int32)).toNatClampNeg]? = some (.double 4607182418800017408) := Has.at Hh126 hin126 rfl
  obtain ⟨cl127, Ar127, qk127, Sz127, Nz127, Hh127, Gg127⟩ := id Fc122
  have hin127 : ¬ ((1 : Int32) < 0 ∨ cl127.slots.size ≤ ((1 : Int32)).toNatClampNeg) := inb_of Sz127 ⟨by decide, by decide⟩
  have hat127 : cl127.slots[((1 : Int32)).toNatClampNeg]? = some (.double 4611686018427387904) := Has.at Hh127 hin127 rfl
  obtain ⟨cl128, Ar128, qk128, Sz128, Nz128, Hh128, Gg128⟩ := id Fc124
  have hin128 : ¬ ((1 : Int32) < 0 ∨ cl128.slots.size ≤ ((1 : Int32)).toNatClampNeg) := inb_of Sz128 ⟨by decide, by decide⟩
  have hat128 : cl128.slots[((1 : Int32)).toNatClampNeg]? = some (.int 1) := Has.at Hh128 hin128 rfl
  obtain ⟨cl129, Ar129, qk129, Sz129, Nz129, Hh129, Gg129⟩ := id Fc122
  have hin129 : ¬ ((1 : Int32) < 0 ∨ cl129.slots.size ≤ ((1 : Int32)).toNatClampNeg) := inb_of Sz129 ⟨by decide, by decide⟩
  have hat129 : cl129.slots[((1 : Int32)).toNatClampNeg]? = some (.double 4611686018427387904) := Has.at Hh129 hin129 rfl
  have Fc130 := (((((F_documentFrequency_r0.other W102 (Or.inr (sn10 hw))).other W106 (Or.inr (sn11 hw))).other W110 (Or.inr (sn12 hw))).other W115 (Or.inr (sn13 hw))).other W119 (Or.inr (sn14 hw)))
  have Fc131 := ((Fc114.wr W115).wr W119)
  obtain ⟨T132, h132, X132, e132, W132, st132⟩ := putF X119 hx hZ hown (host := "") (Or.inl (own_w hw 25 rfl)) Via.refl e119 Fc130 Fc131 (Or.inr ⟨(own_w hw 26 rfl), rfl, hnm⟩) (own_w hw 7 rfl) (ty := .double) (by decide) rfl rfl (g := (mkF m 81 #[.val (.ref r0), .val (.ref r1), .val (.ref r2), .val (.ref r3), .val (.int 0), .val (.int 2), .val (.double 4613937818241073152), .second, .val (.double 4613937818241073152), .second, .val (.int 2)] [(.double 4613937818241073152), (.ref r0)])) rfl rfl (hb hby d1_81)
  have Fw132 := Fc130.same W132
  have N132 := Fr.snoc X132 N119 g_r0
  have ZZ133 : n0 ≤ h132.size := Nat.le_trans ZZ120 (Nat.le_of_eq W132.size.symm)
  have KK134 : Keep h0 h132 [r0] := KK121.wr W132 (Or.inl (List.mem_of_getElem? (i := 0) rfl))
  have Fc135 := ((((((F_collectionFrequency_r0.other W102 (Or.inr (sn15 hw))).other W106 (Or.inr (sn16 hw))).other W110 (Or.inr (sn17 hw))).other W115 (Or.inr (sn18 hw))).other W119 (Or.inr (sn19 hw))).other W132 (Or.inr (sn20 hw)))
  obtain ⟨T136, h136, X136, e136, W136, st136⟩ := putF X132 hx hZ hown (host := "") (Or.inl (own_w hw 27 rfl)) Via.refl e132 Fc135 (Fc131.wr W132) (Or.inr ⟨(own_w hw 28 rfl), rfl, hnm⟩) (own_w hw 7 rfl) (ty := .double) (by decide) rfl rfl (g := (mkF m 87 #[.val (.ref r0), .val (.ref r1), .val (.ref r2), .val (.ref r3), .val (.int 0), .val (.int 2), .val (.double 4613937818241073152), .second, .val (.double 4613937818241073152), .second, .val (.int 2)] [(.double 4613937818241073152), (.ref r0)])) rfl rfl (hb hby d1_87)
  have Fw136 := Fc135.same W136
  have N136 := Fr.snoc X136 N132 g_r0
  have ZZ137 : n0 ≤ h136.size := Nat.le_trans ZZ133 (Nat.le_of_eq W136.size.symm)
  have KK138 : Keep h0 h136 [r0] := KK134.wr W136 (Or.inl (List.mem_of_getElem? (i := 0) rfl))
  obtain ⟨fs, hr, hrun, hended, hW, hsame⟩ := X136.leave (v := none) (fun _ => rfl)
  refine ⟨_, _, pre0 _ ?_, hrun, hended, _, _, rfl, ?_, ⟨_, rfl⟩, hW, hsame.mono (by decide) (by decide)⟩
  · show own_S p e below s₁ m 0 #[oR r0, oR r1, oR r2, oR r3, oI 0, oI 2, oU, oU, oU, oU, oU] [] _
    refine XS.aloadN X0.here hx rfl (hb hby d1_0) rfl rfl ?_
    show own_S p e below s₁ m 1 #[oR r0, oR r1, oR r2, oR r3, oI 0, oI 2, oU, oU, oU, oU, oU] [(.ref r0)] _
    refine st101 _ ?_
    show own_S p e below T101 m 4 #[oR r0, oR r1, oR r2, oR r3, oI 0, oI 2, oU, oU, oU, oU, oU] [] _
    refine XS.aloadN X101.here hx rfl (hb hby d1_4) rfl rfl ?_
    show own_S p e below T101 m 5 #[oR r0, oR r1, oR r2, oR r3, oI 0, oI 2, oU, oU, oU, oU, oU] [(.ref r0)] _
    refine XS.aloadN X101.here hx rfl (hb hby d1_5) rfl rfl ?_
    show own_S p e below T101 m 6 #[oR r0, oR r1, oR r2, oR r3, oI 0, oI 2, oU, oU, oU, oU, oU] [(.ref r1), (.ref r0)] _
    refine st102 _ ?_
    show own_S p e below T102 m 9 #[oR r0, oR r1, oR r2, oR r3, oI 0, oI 2, oU, oU, oU, oU, oU] [] _
    refine XS.aloadN X102.here hx rfl (hb hby d1_9) rfl rfl ?_
    show own_S p e below T102 m 10 #[oR r0, oR r1, oR r2, oR r3, oI 0, oI 2, oU, oU, oU, oU, oU] [(.ref r0)] _
    refine XS.aloadN X102.here hx rfl (hb hby d1_10) rfl rfl ?_
    show own_S p e below T102 m 11 #[oR r0, oR r1, oR r2, oR r3, oI 0, oI 2, oU, oU, oU, oU, oU] [(.ref r2), (.ref r0)] _
    refine st106 _ ?_
    show own_S p e below T106 m 14 #[oR r0, oR r1, oR r2, oR r3, oI 0, oI 2, oU, oU, oU, oU, oU] [] _
    refine XS.aloadN X106.here hx rfl (hb hby d1_14) rfl rfl ?_
    show own_S p e below T106 m 15 #[oR r0, oR r1, oR r2, oR r3, oI 0, oI 2, oU, oU, oU, oU, oU] [(.ref r0)] _
    refine XS.aloadN X106.here hx rfl (hb hby d1_15) rfl rfl ?_
    show own_S p e below T106 m 16 #[oR r0, oR r1, oR r2, oR r3, oI 0, oI 2, oU, oU, oU, oU, oU] [(.ref r3), (.ref r0)] _
    refine st110 _ ?_
    show own_S p e below T110 m 19 #[oR r0, oR r1, oR r2, oR r3, oI 0, oI 2, oU, oU, oU, oU, oU] [] _
    refine XS.aloadN X110.here hx rfl (hb hby d1_19) rfl rfl ?_
    show own_S p e below T110 m 20 #[oR r0, oR r1, oR r2, oR r3, oI 0, oI 2, oU, oU, oU, oU, oU] [(.ref r0)] _
    refine XS.iload X110.here hx rfl (hb hby d1_20) rfl ?_
    show own_S p e below T110 m 22 #[oR r0, oR r1, oR r2, oR r3, oI 0, oI 2, oU, oU, oU, oU, oU] [(.int 0), (.ref r0)] _
    refine st115 _ ?_
    show own_S p e below T115 m 25 #[oR r0, oR r1, oR r2, oR r3, oI 0, oI 2, oU, oU, oU, oU, oU] [] _
    refine XS.aloadN X115.here hx rfl (hb hby d1_25) rfl rfl ?_
    show own_S p e below T115 m 26 #[oR r0, oR r1, oR r2, oR r3, oI 0, oI 2, oU, oU, oU, oU, oU] [(.ref r0)] _
    refine XS.iload X115.here hx rfl (hb hby d1_26) rfl ?_
    show own_S p e below T115 m 28 #[oR r0, oR r1, oR r2, oR r3, oI 0, oI 2, oU, oU, oU, oU, oU] [(.int 2), (.ref r0)] _
    refine st119 _ ?_
    show own_S p e below T119 m 31 #[oR r0, oR r1, oR r2, oR r3, oI 0, oI 2, oU, oU, oU, oU, oU] [] _
    refine XS.dconst0 X119.here hx rfl (v := 0) (hb hby d1_31) rfl ?_
    show own_S p e below T119 m 32 #[oR r0, oR r1, oR r2, oR r3, oI 0, oI 2, oU, oU, oU, oU, oU] [(.double 0)] _
    refine XS.dstore X119.here hx rfl (hb hby d1_32) rfl (l' := #[.val (.ref r0), .val (.ref r1), .val (.ref r2), .val (.ref r3), .val (.int 0), .val (.int 2), .val (.double 0), .second, .unset, .unset, .unset]) rfl ?_
    show own_S p e below T119 m 34 #[oR r0, oR r1, oR r2, oR r3, oI 0, oI 2, oD 0, oV, oU, oU, oU] [] _
    refine XS.dconst0 X119.here hx rfl (v := 0) (hb hby d1_34) rfl ?_
    show own_S p e below T119 m 35 #[oR r0, oR r1, oR r2, oR r3, oI 0, oI 2, oD 0, oV, oU, oU, oU] [(.double 0)] _
    refine XS.dstore X119.here hx rfl (hb hby d1_35) rfl (l' := #[.val (.ref r0), .val (.ref r1), .val (.ref r2), .val (.ref r3), .val (.int 0), .val (.int 2), .val (.double 0), .second, .val (.double 0), .second, .unset]) rfl ?_
    show own_S p e below T119 m 37 #[oR r0, oR r1, oR r2, oR r3, oI 0, oI 2, oD 0, oV, oD 0, oV, oU] [] _
    refine XS.iload X119.here hx rfl (hb hby d1_37) rfl ?_
    show own_S p e below T119 m 39 #[oR r0, oR r1, oR r2, oR r3, oI 0, oI 2, oD 0, oV, oD 0, oV, oU] [(.int 0)] _
    refine XS.istore X119.here hx rfl (hb hby d1_39) rfl (l' := #[.val (.ref r0), .val (.ref r1), .val (.ref r2), .val (.ref r3), .val (.int 0), .val (.int 2), .val (.double 0), .second, .val (.double 0), .second, .val (.int 0)]) rfl ?_
    show own_S p e below T119 m 41 #[oR r0, oR r1, oR r2, oR r3, oI 0, oI 2, oD 0, oV, oD 0, oV, oI 0] [] _
    refine XS.iload X119.here hx rfl (hb hby d1_41) rfl ?_
    show own_S p e below T119 m 43 #[oR r0, oR r1, oR r2, oR r3, oI 0, oI 2, oD 0, oV, oD 0, oV, oI 0] [(.int 0)] _
    refine XS.iload X119.here hx rfl (hb hby d1_43) rfl ?_
    show own_S p e below T119 m 45 #[oR r0, oR r1, oR r2, oR r3, oI 0, oI 2, oD 0, oV, oD 0, oV, oI 0] [(.int 2), (.int 0)] _
    refine XS.icmpNo X119.here hx rfl (hb hby d1_45) rfl (tlt (by decide : (0 : Int32) < (2 : Int32))).2.1 ?_
    show own_S p e below T119 m 48 #[oR r0, oR r1, oR r2, oR r3, oI 0, oI 2, oD 0, oV, oD 0, oV, oI 0] [] _
    refine XS.dload X119.here hx rfl (hb hby d1_48) rfl ?_
    show own_S p e below T119 m 50 #[oR r0, oR r1, oR r2, oR r3, oI 0, oI 2, oD 0, oV, oD 0, oV, oI 0] [(.double 0)] _
    refine XS.aloadN X119.here hx rfl (hb hby d1_50) rfl rfl ?_
    show own_S p e below T119 m 51 #[oR r0, oR r1, oR r2, oR r3, oI 0, oI 2, oD 0, oV, oD 0, oV, oI 0] [(.ref r2), (.double 0)] _
    refine XS.iload X119.here hx rfl (hb hby d1_51) rfl ?_
    show own_S p e below T119 m 53 #[oR r0, oR r1, oR r2, oR r3, oI 0, oI 2, oD 0, oV, oD 0, oV, oI 0] [(.int 0), (.ref r2), (.double 0)] _
    refine X119.daload hx (j := (0 : Int32)) (v := (.double 4607182418800017408)) (by rw [e119]; exact Ar123.1) (State.isArrayOf_alike hZ.alike Ar123.2.1) Ar123.2.2 hin123 hat123 (g := (mkF m 53 #[.val (.ref r0), .val (.ref r1), .val (.ref r2), .val (.ref r3), .val (.int 0), .val (.int 2), .val (.double 0), .second, .val (.double 0), .second, .val (.int 0)] [(.int 0), (.ref r2), (.double 0)])) rfl rfl (hb hby d1_53) _ ?_
    show own_S p e below T119 m 54 #[oR r0, oR r1, oR r2, oR r3, oI 0, oI 2, oD 0, oV, oD 0, oV, oI 0] [(.double 4607182418800017408), (.double 0)] _
    refine XS.aloadN X119.here hx rfl (hb hby d1_54) rfl rfl ?_
    show own_S p e below T119 m 55 #[oR r0, oR r1, oR r2, oR r3, oI 0, oI 2, oD 0, oV, oD 0, oV, oI 0] [(.ref r3), (.double 4607182418800017408), (.double 0)] _
    refine XS.iload X119.here hx rfl (hb hby d1_55) rfl ?_
    show own_S p e below T119 m 57 #[oR r0, oR r1, oR r2, oR r3, oI 0, oI 2, oD 0, oV, oD 0, oV, oI 0] [(.int 0), (.ref r3), (.double 4607182418800017408), (.double 0)] _
    refine X119.iaload hx (j := (0 : Int32)) (v := (.int 1)) (by rw [e119]; exact Ar125.1) (State.isArrayOf_alike hZ.alike Ar125.2.1) Ar125.2.2 hin125 hat125 (g := (mkF m 57 #[.val (.ref r0), .val (.ref r1), .val (.ref r2), .val (.ref r3), .val (.int 0), .val (.int 2), .val (.double 0), .second, .val (.double 0), .second, .val (.int 0)] [(.int 0), (.ref r3), (.double 4607182418800017408), (.double 0)])) rfl rfl (hb hby d1_57) _ ?_
    show own_S p e below T119 m 58 #[oR r0, oR r1, oR r2, oR r3, oI 0, oI 2, oD 0, oV, oD 0, oV, oI 0] [(.int 1), (.double 4607182418800017408), (.double 0)] _
    refine XS.i2dS X119.here hx rfl (v := (4607182418800017408 : UInt64)) (hb hby d1_58) rfl (by decide +kernel) ?_
    show own_S p e below T119 m 59 #[oR r0, oR r1, oR r2, oR r3, oI 0, oI 2, oD 0, oV, oD 0, oV, oI 0] [(.double 4607182418800017408), (.double 4607182418800017408), (.double 0)] _
    refine XS.ddivS X119.here hx rfl (v := (4607182418800017408 : UInt64)) (hb hby d1_59) rfl (own_nnl (by decide +kernel : FP.ddiv (4607182418800017408 : UInt64) (4607182418800017408 : UInt64) = (4607182418800017408 : UInt64)) (by unfold NoNaN64; decide)) (by decide +kernel) ?_
    show own_S p e below T119 m 60 #[oR r0, oR r1, oR r2, oR r3, oI 0, oI 2, oD 0, oV, oD 0, oV, oI 0] [(.double 4607182418800017408), (.double 0)] _
    refine XS.daddS X119.here hx rfl (v := (4607182418800017408 : UInt64)) (hb hby d1_60) rfl (own_nnl (by decide +kernel : FP.dadd (0 : UInt64) (4607182418800017408 : UInt64) = (4607182418800017408 : UInt64)) (by unfold NoNaN64; decide)) (by decide +kernel) ?_
    show own_S p e below T119 m 61 #[oR r0, oR r1, oR r2, oR r3, oI 0, oI 2, oD 0, oV, oD 0, oV, oI 0] [(.double 4607182418800017408)] _
    refine XS.dstore X119.here hx rfl (hb hby d1_61) rfl (l' := #[.val (.ref r0), .val (.ref r1), .val (.ref r2), .val (.ref r3), .val (.int 0), .val (.int 2), .val (.double 4607182418800017408), .second, .val (.double 0), .second, .val (.int 0)]) rfl ?_
    show own_S p e below T119 m 63 #[oR r0, oR r1, oR r2, oR r3, oI 0, oI 2, oD 4607182418800017408, oV, oD 0, oV, oI 0] [] _
    refine XS.dload X119.here hx rfl (hb hby d1_63) rfl ?_
    show own_S p e below T119 m 65 #[oR r0, oR r1, oR r2, oR r3, oI 0, oI 2, oD 4607182418800017408, oV, oD 0, oV, oI 0] [(.double 0)] _
    refine XS.aloadN X119.here hx rfl (hb hby d1_65) rfl rfl ?_
    show own_S p e below T119 m 66 #[oR r0, oR r1, oR r2, oR r3, oI 0, oI 2, oD 4607182418800017408, oV, oD 0, oV, oI 0] [(.ref r2), (.double 0)] _
    refine XS.iload X119.here hx rfl (hb hby d1_66) rfl ?_
    show own_S p e below T119 m 68 #[oR r0, oR r1, oR r2, oR r3, oI 0, oI 2, oD 4607182418800017408, oV, oD 0, oV, oI 0] [(.int 0), (.ref r2), (.double 0)] _
    refine X119.daload hx (j := (0 : Int32)) (v := (.double 4607182418800017408)) (by rw [e119]; exact Ar126.1) (State.isArrayOf_alike hZ.alike Ar126.2.1) Ar126.2.2 hin126 hat126 (g := (mkF m 68 #[.val (.ref r0), .val (.ref r1), .val (.ref r2), .val (.ref r3), .val (.int 0), .val (.int 2), .val (.double 4607182418800017408), .second, .val (.double 0), .second, .val (.int 0)] [(.int 0), (.ref r2), (.double 0)])) rfl rfl (hb hby d1_68) _ ?_
    show own_S p e below T119 m 69 #[oR r0, oR r1, oR r2, oR r3, oI 0, oI 2, oD 4607182418800017408, oV, oD 0, oV, oI 0] [(.double 4607182418800017408), (.double 0)] _
    refine XS.daddS X119.here hx rfl (v := (4607182418800017408 : UInt64)) (hb hby d1_69) rfl (own_nnl (by decide +kernel : FP.dadd (0 : UInt64) (4607182418800017408 : UInt64) = (4607182418800017408 : UInt64)) (by unfold NoNaN64; decide)) (by decide +kernel) ?_
    show own_S p e below T119 m 70 #[oR r0, oR r1, oR r2, oR r3, oI 0, oI 2, oD 4607182418800017408, oV, oD 0, oV, oI 0] [(.double 4607182418800017408)] _
    refine XS.dstore X119.here hx rfl (hb hby d1_70) rfl (l' := #[.val (.ref r0), .val (.ref r1), .val (.ref r2), .val (.ref r3), .val (.int 0), .val (.int 2), .val (.double 4607182418800017408), .second, .val (.double 4607182418800017408), .second, .val (.int 0)]) rfl ?_
    show own_S p e below T119 m 72 #[oR r0, oR r1, oR r2, oR r3, oI 0, oI 2, oD 4607182418800017408, oV, oD 4607182418800017408, oV, oI 0] [] _
    refine XS.iinc X119.here hx rfl (hb hby d1_72) rfl (l' := #[.val (.ref r0), .val (.ref r1), .val (.ref r2), .val (.ref r3), .val (.int 0), .val (.int 2), .val (.double 4607182418800017408), .second, .val (.double 4607182418800017408), .second, .val (.int 1)]) rfl ?_
    show own_S p e below T119 m 75 #[oR r0, oR r1, oR r2, oR r3, oI 0, oI 2, oD 4607182418800017408, oV, oD 4607182418800017408, oV, oI 1] [] _
    refine XS.goto X119.here hx rfl (pc0 := 75) (pc' := 41) rfl (hb hby d1_75) (by decide) (by decide) ?_
    show own_S p e below T119 m 41 #[oR r0, oR r1, oR r2, oR r3, oI 0, oI 2, oD 4607182418800017408, oV, oD 4607182418800017408, oV, oI 1] [] _
    refine XS.iload X119.here hx rfl (hb hby d1_41) rfl ?_
    show own_S p e below T119 m 43 #[oR r0, oR r1, oR r2, oR r3, oI 0, oI 2, oD 4607182418800017408, oV, oD 4607182418800017408, oV, oI 1] [(.int 1)] _
    refine XS.iload X119.here hx rfl (hb hby d1_43) rfl ?_
    show own_S p e below T119 m 45 #[oR r0, oR r1, oR r2, oR r3, oI 0, oI 2, oD 4607182418800017408, oV, oD 4607182418800017408, oV, oI 1] [(.int 2), (.int 1)] _
    refine XS.icmpNo X119.here hx rfl (hb hby d1_45) rfl (tlt (by decide : (1 : Int32) < (2 : Int32))).2.1 ?_
    show own_S p e below T119 m 48 #[oR r0, oR r1, oR r2, oR r3, oI 0, oI 2, oD 4607182418800017408, oV, oD 4607182418800017408, oV, oI 1] [] _
    refine XS.dload X119.here hx rfl (hb hby d1_48) rfl ?_
    show own_S p e below T119 m 50 #[oR r0, oR r1, oR r2, oR r3, oI 0, oI 2, oD 4607182418800017408, oV, oD 4607182418800017408, oV, oI 1] [(.double 4607182418800017408)] _
    refine XS.aloadN X119.here hx rfl (hb hby d1_50) rfl rfl ?_
    show own_S p e below T119 m 51 #[oR r0, oR r1, oR r2, oR r3, oI 0, oI 2, oD 4607182418800017408, oV, oD 4607182418800017408, oV, oI 1] [(.ref r2), (.double 4607182418800017408)] _
    refine XS.iload X119.here hx rfl (hb hby d1_51) rfl ?_
    show own_S p e below T119 m 53 #[oR r0, oR r1, oR r2, oR r3, oI 0, oI 2, oD 4607182418800017408, oV, oD 4607182418800017408, oV, oI 1] [(.int 1), (.ref r2), (.double 4607182418800017408)] _
    refine X119.daload hx (j := (1 : Int32)) (v := (.double 4611686018427387904)) (by rw [e119]; exact Ar127.1) (State.isArrayOf_alike hZ.alike Ar127.2.1) Ar127.2.2 hin127 hat127 (g := (mkF m 53 #[.val (.ref r0), .val (.ref r1), .val (.ref r2), .val (.ref r3), .val (.int 0), .val (.int 2), .val (.double 4607182418800017408), .second, .val (.double 4607182418800017408), .second, .val (.int 1)] [(.int 1), (.ref r2), (.double 4607182418800017408)])) rfl rfl (hb hby d1_53) _ ?_
    show own_S p e below T119 m 54 #[oR r0, oR r1, oR r2, oR r3, oI 0, oI 2, oD 4607182418800017408, oV, oD 4607182418800017408, oV, oI 1] [(.double 4611686018427387904), (.double 4607182418800017408)] _
    refine XS.aloadN X119.here hx rfl (hb hby d1_54) rfl rfl ?_
    show own_S p e below T119 m 55 #[oR r0, oR r1, oR r2, oR r3, oI 0, oI 2, oD 4607182418800017408, oV, oD 4607182418800017408, oV, oI 1] [(.ref r3), (.double 4611686018427387904), (.double 4607182418800017408)] _
    refine XS.iload X119.here hx rfl (hb hby d1_55) rfl ?_
    show own_S p e below T119 m 57 #[oR r0, oR r1, oR r2, oR r3, oI 0, oI 2, oD 4607182418800017408, oV, oD 4607182418800017408, oV, oI 1] [(.int 1), (.ref r3), (.double 4611686018427387904), (.double 4607182418800017408)] _
    refine X119.iaload hx (j := (1 : Int32)) (v := (.int 1)) (by rw [e119]; exact Ar128.1) (State.isArrayOf_alike hZ.alike Ar128.2.1) Ar128.2.2 hin128 hat128 (g := (mkF m 57 #[.val (.ref r0), .val (.ref r1), .val (.ref r2), .val (.ref r3), .val (.int 0), .val (.int 2), .val (.double 4607182418800017408), .second, .val (.double 4607182418800017408), .second, .val (.int 1)] [(.int 1), (.ref r3), (.double 4611686018427387904), (.double 4607182418800017408)])) rfl rfl (hb hby d1_57) _ ?_
    show own_S p e below T119 m 58 #[oR r0, oR r1, oR r2, oR r3, oI 0, oI 2, oD 4607182418800017408, oV, oD 4607182418800017408, oV, oI 1] [(.int 1), (.double 4611686018427387904), (.double 4607182418800017408)] _
    refine XS.i2dS X119.here hx rfl (v := (4607182418800017408 : UInt64)) (hb hby d1_58) rfl (by decide +kernel) ?_
    show own_S p e below T119 m 59 #[oR r0, oR r1, oR r2, oR r3, oI 0, oI 2, oD 4607182418800017408, oV, oD 4607182418800017408, oV, oI 1] [(.double 4607182418800017408), (.double 4611686018427387904), (.double 4607182418800017408)] _
    refine XS.ddivS X119.here hx rfl (v := (4611686018427387904 : UInt64)) (hb hby d1_59) rfl (own_nnl (by decide +kernel : FP.ddiv (4611686018427387904 : UInt64) (4607182418800017408 : UInt64) = (4611686018427387904 : UInt64)) (by unfold NoNaN64; decide)) (by decide +kernel) ?_
    show own_S p e below T119 m 60 #[oR r0, oR r1, oR r2, oR r3, oI 0, oI 2, oD 4607182418800017408, oV, oD 4607182418800017408, oV, oI 1] [(.double 4611686018427387904), (.double 4607182418800017408)] _
    refine XS.daddS X119.here hx rfl (v := (4613937818241073152 : UInt64)) (hb hby d1_60) rfl (own_nnl (by decide +kernel : FP.dadd (4607182418800017408 : UInt64) (4611686018427387904 : UInt64) = (4613937818241073152 : UInt64)) (by unfold NoNaN64; decide)) (by decide +kernel) ?_
    show own_S p e below T119 m 61 #[oR r0, oR r1, oR r2, oR r3, oI 0, oI 2, oD 4607182418800017408, oV, oD 4607182418800017408, oV, oI 1] [(.double 4613937818241073152)] _
    refine XS.dstore X119.here hx rfl (hb hby d1_61) rfl (l' := #[.val (.ref r0), .val (.ref r1), .val (.ref r2), .val (.ref r3), .val (.int 0), .val (.int 2), .val (.double 4613937818241073152), .second, .val (.double 4607182418800017408), .second, .val (.int 1)]) rfl ?_
    show own_S p e below T119 m 63 #[oR r0, oR r1, oR r2, oR r3, oI 0, oI 2, oD 4613937818241073152, oV, oD 4607182418800017408, oV, oI 1] [] _
    refine XS.dload X119.here hx rfl (hb hby d1_63) rfl ?_
    show own_S p e below T119 m 65 #[oR r0, oR r1, oR r2, oR r3, oI 0, oI 2, oD 4613937818241073152, oV, oD 4607182418800017408, oV, oI 1] [(.double 4607182418800017408)] _
    refine XS.aloadN X119.here hx rfl (hb hby d1_65) rfl rfl ?_
    show own_S p e below T119 m 66 #[oR r0, oR r1, oR r2, oR r3, oI 0, oI 2, oD 4613937818241073152, oV, oD 4607182418800017408, oV, oI 1] [(.ref r2), (.double 4607182418800017408)] _
    refine XS.iload X119.here hx rfl (hb hby d1_66) rfl ?_
    show own_S p e below T119 m 68 #[oR r0, oR r1, oR r2, oR r3, oI 0, oI 2, oD 4613937818241073152, oV, oD 4607182418800017408, oV, oI 1] [(.int 1), (.ref r2), (.double 4607182418800017408)] _
    refine X119.daload hx (j := (1 : Int32)) (v := (.double 4611686018427387904)) (by rw [e119]; exact Ar129.1) (State.isArrayOf_alike hZ.alike Ar129.2.1) Ar129.2.2 hin129 hat129 (g := (mkF m 68 #[.val (.ref r0), .val (.ref r1), .val (.ref r2), .val (.ref r3), .val (.int 0), .val (.int 2), .val (.double 4613937818241073152), .second, .val (.double 4607182418800017408), .second, .val (.int 1)] [(.int 1), (.ref r2), (.double 4607182418800017408)])) rfl rfl (hb hby d1_68) _ ?_
    show own_S p e below T119 m 69 #[oR r0, oR r1, oR r2, oR r3, oI 0, oI 2, oD 4613937818241073152, oV, oD 4607182418800017408, oV, oI 1] [(.double 4611686018427387904), (.double 4607182418800017408)] _
    refine XS.daddS X119.here hx rfl (v := (4613937818241073152 : UInt64)) (hb hby d1_69) rfl (own_nnl (by decide +kernel : FP.dadd (4607182418800017408 : UInt64) (4611686018427387904 : UInt64) = (4613937818241073152 : UInt64)) (by unfold NoNaN64; decide)) (by decide +kernel) ?_
    show own_S p e below T119 m 70 #[oR r0, oR r1, oR r2, oR r3, oI 0, oI 2, oD 4613937818241073152, oV, oD 4607182418800017408, oV, oI 1] [(.double 4613937818241073152)] _
    refine XS.dstore X119.here hx rfl (hb hby d1_70) rfl (l' := #[.val (.ref r0), .val (.ref r1), .val (.ref r2), .val (.ref r3), .val (.int 0), .val (.int 2), .val (.double 4613937818241073152), .second, .val (.double 4613937818241073152), .second, .val (.int 1)]) rfl ?_
    show own_S p e below T119 m 72 #[oR r0, oR r1, oR r2, oR r3, oI 0, oI 2, oD 4613937818241073152, oV, oD 4613937818241073152, oV, oI 1] [] _
    refine XS.iinc X119.here hx rfl (hb hby d1_72) rfl (l' := #[.val (.ref r0), .val (.ref r1), .val (.ref r2), .val (.ref r3), .val (.int 0), .val (.int 2), .val (.double 4613937818241073152), .second, .val (.double 4613937818241073152), .second, .val (.int 2)]) rfl ?_
    show own_S p e below T119 m 75 #[oR r0, oR r1, oR r2, oR r3, oI 0, oI 2, oD 4613937818241073152, oV, oD 4613937818241073152, oV, oI 2] [] _
    refine XS.goto X119.here hx rfl (pc0 := 75) (pc' := 41) rfl (hb hby d1_75) (by decide) (by decide) ?_
    show own_S p e below T119 m 41 #[oR r0, oR r1, oR r2, oR r3, oI 0, oI 2, oD 4613937818241073152, oV, oD 4613937818241073152, oV, oI 2] [] _
    refine XS.iload X119.here hx rfl (hb hby d1_41) rfl ?_
    show own_S p e below T119 m 43 #[oR r0, oR r1, oR r2, oR r3, oI 0, oI 2, oD 4613937818241073152, oV, oD 4613937818241073152, oV, oI 2] [(.int 2)] _
    refine XS.iload X119.here hx rfl (hb hby d1_43) rfl ?_
    show own_S p e below T119 m 45 #[oR r0, oR r1, oR r2, oR r3, oI 0, oI 2, oD 4613937818241073152, oV, oD 4613937818241073152, oV, oI 2] [(.int 2), (.int 2)] _
    refine XS.icmpYes X119.here hx rfl (pc0 := 45) (pc' := 78) rfl (hb hby d1_45) rfl (flt (by decide : ¬ ((2 : Int32) < (2 : Int32)))).2.1 (by decide) (by decide) ?_
    show own_S p e below T119 m 78 #[oR r0, oR r1, oR r2, oR r3, oI 0, oI 2, oD 4613937818241073152, oV, oD 4613937818241073152, oV, oI 2] [] _
    refine XS.aloadN X119.here hx rfl (hb hby d1_78) rfl rfl ?_
    show own_S p e below T119 m 79 #[oR r0, oR r1, oR r2, oR r3, oI 0, oI 2, oD 4613937818241073152, oV, oD 4613937818241073152, oV, oI 2] [(.ref r0)] _
    refine XS.dload X119.here hx rfl (hb hby d1_79) rfl ?_
    show own_S p e below T119 m 81 #[oR r0, oR r1, oR r2, oR r3, oI 0, oI 2, oD 4613937818241073152, oV, oD 4613937818241073152, oV, oI 2] [(.double 4613937818241073152), (.ref r0)] _
    refine st132 _ ?_
    show own_S p e below T132 m 84 #[oR r0, oR r1, oR r2, oR r3, oI 0, oI 2, oD 4613937818241073152, oV, oD 4613937818241073152, oV, oI 2] [] _
    refine XS.aloadN X132.here hx rfl (hb hby d1_84) rfl rfl ?_
    show own_S p e below T132 m 85 #[oR r0, oR r1, oR r2, oR r3, oI 0, oI 2, oD 4613937818241073152, oV, oD 4613937818241073152, oV, oI 2] [(.ref r0)] _
    refine XS.dload X132.here hx rfl (hb hby d1_85) rfl ?_
    show own_S p e below T132 m 87 #[oR r0, oR r1, oR r2, oR r3, oI 0, oI 2, oD 4613937818241073152, oV, oD 4613937818241073152, oV, oI 2] [(.double 4613937818241073152), (.ref r0)] _
    refine st136 _ ?_
    show own_S p e below T136 m 90 #[oR r0, oR r1, oR r2, oR r3, oI 0, oI 2, oD 4613937818241073152, oV, oD 4613937818241073152, oV, oI 2] [] _
    exact X136.returnOut hx Bd.returns (hb hby d1_90) hr
  · show Q1_0_2 Z r0 r1 r2 r3 u0 u1 u2 u3 u4 u5 u6 kd ko h0 n0 _ T136.heap _
    rw [e136]
    exact ⟨rfl, N136, KK138, ((Fc131.wr W132).wr W136), ((((((Fw102.other W106 (Or.inr (sn21 hw))).other W110 (Or.inr (sn22 hw))).other W115 (Or.inr (sn23 hw))).other W119 (Or.inr (sn24 hw))).other W132 (Or.inr (sn25 hw))).other W136 (Or.inr (sn26 hw))), (((Fw115.other W119 (Or.inr (sn27 hw))).other W132 (Or.inr (sn28 hw))).other W136 (Or.inr (sn29 hw))), ((Fw119.other W132 (Or.inr (sn30 hw))).other W136 (Or.inr (sn31 hw)))⟩
theorem ef1_0_3 (m : MethodId) (r0 : Addr) (r1 : Addr) (r2 : Addr) (r3 : Addr) : entryFrame m #[(.ref r0), (.ref r1), (.ref r2), (.ref r3), (.int 0), (.int 3)] 11 = mkF m 0 #[.val (.ref r0), .val (.ref r1), .val (.ref r2), .val (.ref r3), .val (.int 0), .val (.int 3), .unset, .unset, .unset, .unset, .unset] [] := by first | (simp [entryFrame, mkF, argsToLocals, Value.category]; done) | rfl
def Q1_0_3 (Z : State) (r0 : Addr) (r1 : Addr) (r2 : Addr) (r3 : Addr) (u0 : Value) (u1 : Value) (u2 : Value) (u3 : Value) (u4 : Value) (u5 : Value) (u6 : Value) (kd : ClassId) (ko : ClassId) (h0 : Heap) (n0 : Nat) (v : Option Value) (h : Heap) (L : List Loc) : Prop := v = none ∧ Fr n0 L ∧ (Keep h0 h [r0]) ∧ (Exa Z h r0 "com/example/buurt/buurt/model/CrossTermFrequencies") ∧ (Fld Z h r0 "com/example/buurt/buurt/model/CrossTermFrequencies" "docs" "[I" (.ref r1)) ∧ (Fld Z h r0 "com/example/buurt/buurt/model/CrossTermFrequencies" "from" "I" (.int 0)) ∧ (Fld Z h r0 "com/example/buurt/buurt/model/CrossTermFrequencies" "to" "I" (.int 3))
set_option maxRecDepth 65536 in
set_option maxHeartbeats 40000000 in
theorem rm1_0_3 (l : Launch) (Z : State) (a0 : Array Value) (hw : ∀ d ∈ tables_1, d.before a0 Z = true) (ws : List Jvm.Cond) (r0 : Addr) (r1 : Addr) (r2 : Addr) (r3 : Addr) (u0 : Value) (u1 : Value) (u2 : Value) (u3 : Value) (u4 : Value) (u5 : Value) (u6 : Value) (kd : ClassId) (ko : ClassId) (h0 : Heap) (n0 : Nat) (Z0 : n0 ≤ h0.size) (F_docs_r0 : Fld Z h0 r0 "com/example/buurt/buurt/model/CrossTermFrequencies" "docs" "[I" u0) (F_tfs_r0 : Fld Z h0 r0 "com/example/buurt/buurt/model/CrossTermFrequencies" "tfs" "[D" u1) (F_occurs_r0 : Fld Z h0 r0 "com/example/buurt/buurt/model/CrossTermFrequencies" "occurs" "[I" u2) (F_from_r0 : Fld Z h0 r0 "com/example/buurt/buurt/model/CrossTermFrequencies" "from" "I" u3) (F_to_r0 : Fld Z h0 r0 "com/example/buurt/buurt/model/CrossTermFrequencies" "to" "I" u4) (F_documentFrequency_r0 : Fld Z h0 r0 "com/example/buurt/buurt/model/CrossTermFrequencies" "documentFrequency" "D" u5) (F_collectionFrequency_r0 : Fld Z h0 r0 "com/example/buurt/buurt/model/CrossTermFrequencies" "collectionFrequency" "D" u6) (E_r0 : Exa Z h0 r0 "com/example/buurt/buurt/model/CrossTermFrequencies") (g_r0 : n0 ≤ r0) (V_r2 : Arv Z h0 r2 kd .double (4 : Int32) [(.double 4607182418800017408), (.double 4611686018427387904), (.double 4613937818241073152), (.double 4616189618054758400)] (.double 0)) (V_r3 : Arv Z h0 r3 ko .int (4 : Int32) [(.int 1), (.int 1), (.int 1), (.int 1)] (.int 0)) (ne_r2_r0 : r2 ≠ r0) (ne_r3_r0 : r3 ≠ r0) :
    MetFree l (⟨"com/example/buurt/buurt/model/CrossTermFrequencies", "<init>", "([I[D[III)V"⟩ : MethodName) (head1 (Jvm.Cond.code (⟨"com/example/buurt/buurt/model/CrossTermFrequencies", "<init>", "([I[D[III)V"⟩ : MethodName) prog_27_method_1_code 11 none :: ws) ({ frames := 1, cells := 0, slots := 0, locals := 12 } : Room)) (fun a U => a = #[(.ref r0), (.ref r1), (.ref r2), (.ref r3), (.int 0), (.int 3)] ∧ Z.Warmed39 U.vm ∧ U.heap = h0) (fun _ _ _ _ _ => True) (fun _ U o U' => ∃ v L, o = .returned v ∧ Q1_0_3 Z r0 r1 r2 r3 u0 u1 u2 u3 u4 u5 u6 kd ko h0 n0 v U'.heap L ∧ FrameEnd U o U' L ({ frames := 1, cells := 0, slots := 0, locals := 12 } : Room).cells ({ frames := 1, cells := 0, slots := 0, locals := 12 } : Room).slots) := by
  refine MetFree.of_bodySF (plainFor_of_name pn0) hisR ?_
  intro p e s m args below meth c s₁ Bd hml0 hP hK
  obtain ⟨rfl, hZ, hh⟩ := hP
  have hx := Bd.exec
  have hby := Bd.bytes
  have hml : c.maxLocals = 11 := hml0
  have hown : s.vm.findClass "com/example/buurt/buurt/model/CrossTermFrequencies" = some m.cls := findClass_of_methodNamed Bd.named
  have hnm := (name_of_methodNamed Bd.named Bd.method).1
  have X0 : Stand p l e ({ frames := 1, cells := 0, slots := 0, locals := 12 } : Room) s m #[(.ref r0), (.ref r1), (.ref r2), (.ref r3), (.int 0), (.int 3)] below meth c s₁ [] 0 0 := Stand.of_body Bd
  have e0 : s₁.heap = h0 := by rw [← hh, Bd.state]; rfl
  have N0 := Fr.nil n0
  have pre0 : ∀ t, Steps p.tables e below (s₁.setTop (mkF m 0 #[.val (.ref r0), .val (.ref r1), .val (.ref r2), .val (.ref r3), .val (.int 0), .val (.int 3), .unset, .unset, .unset, .unset, .unset] [])) t → Steps p.tables e below (s₁.setTop (entryFrame m #[(.ref r0), (.ref r1), (.ref r2), (.ref r3), (.int 0), (.int 3)] 11)) t := fun t k => castTop (ef1_0_3 m r0 r1 r2 r3) k
  obtain ⟨T101, X101, e101, st101⟩ := initO X0 hx hZ hown (own_w hw 12 rfl) (own_w hw 13 rfl) (own_w hw 14 rfl) e0 (g := (mkF m 1 #[.val (.ref r0), .val (.ref r1), .val (.ref r2), .val (.ref r3), .val (.int 0), .val (.int 3), .unset, .unset, .unset, .unset, .unset] [(.ref r0)])) rfl (by rw [hml]; rfl) rfl (hb hby d1_1) (by decide) (W := 0) (by show 2 * 0 + _ ≤ _; exact Nat.le_of_eq rfl) (by decide)
  obtain ⟨T102, h102, X102, e102, W102, st102⟩ := putF X101 hx hZ hown (host := "") (Or.inl (own_w hw 15 rfl)) Via.refl e101 F_docs_r0 E_r0 (Or.inr ⟨(own_w hw 16 rfl), rfl, hnm⟩) (own_w hw 7 rfl) (ty := (.array .int)) (by decide) rfl rfl (g := (mkF m 6 #[.val (.ref r0), .val (.ref r1), .val (.ref r2), .val (.ref r3), .val (.int 0), .val (.int 3), .unset, .unset, .unset, .unset, .unset] [(.ref r1), (.ref r0)])) rfl rfl (hb hby d1_6)
  have Fw102 := F_docs_r0.same W102
  have N102 := Fr.snoc X102 N0 g_r0
  have ZZ103 : n0 ≤ h102.size := Nat.le_trans Z0 (Nat.le_of_eq W102.size.symm)
  have KK104 : Keep h0 h102 [r0] := (Keep.refl h0 [r0]).wr W102 (Or.inl (List.mem_of_getElem? (i := 0) rfl))
  have Fc105 := (F_tfs_r0.other W102 (Or.inr (sn0 hw)))
  obtain ⟨T106, h106, X106, e106, W106, st106⟩ := putF X102 hx hZ hown (host := "") (Or.inl (own_w hw 17 rfl)) Via.refl e102 Fc105 (E_r0.wr W102) (Or.inr ⟨(own_w hw 18 rfl), rfl, hnm⟩) (own_w hw 7 rfl) (ty := (.array .double)) (by decide) rfl rfl (g := (mkF m 11 #[.val (.ref r0), .val (.ref r1), .val (.ref r2), .val (.ref r3), .val (.int 0), .val (.int 3), .unset, .unset, .unset, .unset, .unset] [(.ref r2), (.ref r0)])) rfl rfl (hb hby d1_11)
  have Fw106 := Fc105.same W106
  have N106 := Fr.snoc X106 N102 g_r0
  have ZZ107 : n0 ≤ h106.size := Nat.le_trans ZZ103 (Nat.le_of_eq W106.size.symm)
  have KK108 : Keep h0 h106 [r0] := KK104.wr W106 (Or.inl (List.mem_of_getElem? (i := 0) rfl))
  have Fc109 := ((F_occurs_r0.other W102 (Or.inr (sn1 hw))).other W106 (Or.inr (sn2 hw)))
  obtain ⟨T110, h110, X110, e110, W110, st110⟩ := putF X106 hx hZ hown (host := "") (Or.inl (own_w hw 19 rfl)) Via.refl e106 Fc109 ((E_r0.wr W102).wr W106) (Or.inr ⟨(own_w hw 20 rfl), rfl, hnm⟩) (own_w hw 7 rfl) (ty := (.array .int)) (by decide) rfl rfl (g := (mkF m 16 #[.val (.ref r0), .val (.ref r1), .val (.ref r2), .val (.ref r3), .val (.int 0), .val (.int 3), .unset, .unset, .unset, .unset, .unset] [(.ref r3), (.ref r0)])) rfl rfl (hb hby d1_16)
  have Fw110 := Fc109.same W110
  have N110 := Fr.snoc X110 N106 g_r0
  have ZZ111 : n0 ≤ h110.size := Nat.le_trans ZZ107 (Nat.le_of_eq W110.size.symm)
  have KK112 : Keep h0 h110 [r0] := KK108.wr W110 (Or.inl (List.mem_of_getElem? (i := 0) rfl))
  have Fc113 := (((F_from_r0.other W102 (Or.inr (sn3 hw))).other W106 (Or.inr (sn4 hw))).other W110 (Or.inr (sn5 hw)))
  have Fc114 := (((E_r0.wr W102).wr W106).wr W110)
  obtain ⟨T115, h115, X115, e115, W115, st115⟩ := putF X110 hx hZ hown (host := "") (Or.inl (own_w hw 21 rfl)) Via.refl e110 Fc113 Fc114 (Or.inr ⟨(own_w hw 22 rfl), rfl, hnm⟩) (own_w hw 7 rfl) (ty := .int) (by decide) rfl rfl (g := (mkF m 22 #[.val (.ref r0), .val (.ref r1), .val (.ref r2), .val (.ref r3), .val (.int 0), .val (.int 3), .unset, .unset, .unset, .unset, .unset] [(.int 0), (.ref r0)])) rfl rfl (hb hby d1_22)
  have Fw115 := Fc113.same W115
  have N115 := Fr.snoc X115 N110 g_r0
  have ZZ116 : n0 ≤ h115.size := Nat.le_trans ZZ111 (Nat.le_of_eq W115.size.symm)
  have KK117 : Keep h0 h115 [r0] := KK112.wr W115 (Or.inl (List.mem_of_getElem? (i := 0) rfl))
  have Fc118 := ((((F_to_r0.other W102 (Or.inr (sn6 hw))).other W106 (Or.inr (sn7 hw))).other W110 (Or.inr (sn8 hw))).other W115 (Or.inr (sn9 hw)))
  obtain ⟨T119, h119, X119, e119, W119, st119⟩ := putF X115 hx hZ hown (host := "") (Or.inl (own_w hw 23 rfl)) Via.refl e115 Fc118 (Fc114.wr W115) (Or.inr ⟨(own_w hw 24 rfl), rfl, hnm⟩) (own_w hw 7 rfl) (ty := .int) (by decide) rfl rfl (g := (mkF m 28 #[.val (.ref r0), .val (.ref r1), .val (.ref r2), .val (.ref r3), .val (.int 0), .val (.int 3), .unset, .unset, .unset, .unset, .unset] [(.int 3), (.ref r0)])) rfl rfl (hb hby d1_28)
  have Fw119 := Fc118.same W119
  have N119 := Fr.snoc X119 N115 g_r0
  have ZZ120 : n0 ≤ h119.size := Nat.le_trans ZZ116 (Nat.le_of_eq W119.size.symm)
  have KK121 : Keep h0 h119 [r0] := KK117.wr W119 (Or.inl (List.mem_of_getElem? (i := 0) rfl))
  have Fc122 := (((((V_r2.other W102 ne_r2_r0).other W106 ne_r2_r0).other W110 ne_r2_r0).other W115 ne_r2_r0).other W119 ne_r2_r0)
  obtain ⟨cl123, Ar123, qk123, Sz123, Nz123, Hh123, Gg123⟩ := id Fc122
  have hin123 : ¬ ((0 : Int32) < 0 ∨ cl123.slots.size ≤ ((0 : Int32)).toNatClampNeg) := inb_of Sz123 ⟨by decide, by decide⟩
  have hat123 : cl123.slots[((0 : Int32)).toNatClampNeg]? = some (.double 4607182418800017408) := Has.at Hh123 hin123 rfl
  have Fc124 := (((((V_r3.other W102 ne_r3_r0).other W106 ne_r3_r0).other W110 ne_r3_r0).other W115 ne_r3_r0).other W119 ne_r3_r0)
  obtain ⟨cl125, Ar125, qk125, Sz125, Nz125, Hh125, Gg125⟩ := id Fc124
  have hin125 : ¬ ((0 : Int32) < 0 ∨ cl125.slots.size ≤ ((0 : Int32)).toNatClampNeg) := inb_of Sz125 ⟨by decide, by decide⟩
  have hat125 : cl125.slots[((0 : Int32)).toNatClampNeg]? = some (.int 1) := Has.at Hh125 hin125 rfl
  obtain ⟨cl126, Ar126, qk126, Sz126, Nz126, Hh126, Gg126⟩ := id Fc122
  have hin126 : ¬ ((0 : Int32) < 0 ∨ cl126.slots.size ≤ ((0 : Int32)).toNatClampNeg) := inb_of Sz126 ⟨by decide, by decide⟩
  have hat126 : cl126.slots[((0 : Int32)).toNatClampNeg]? = some (.double 4607182418800017408) := Has.at Hh126 hin126 rfl
  obtain ⟨cl127, Ar127, qk127, Sz127, Nz127, Hh127, Gg127⟩ := id Fc122
  have hin127 : ¬ ((1 : Int32) < 0 ∨ cl127.slots.size ≤ ((1 : Int32)).toNatClampNeg) := inb_of Sz127 ⟨by decide, by decide⟩
  have hat127 : cl127.slots[((1 : Int32)).toNatClampNeg]? = some (.double 4611686018427387904) := Has.at Hh127 hin127 rfl
  obtain ⟨cl128, Ar128, qk128, Sz128, Nz128, Hh128, Gg128⟩ := id Fc124
  have hin128 : ¬ ((1 : Int32) < 0 ∨ cl128.slots.size ≤ ((1 : Int32)).toNatClampNeg) := inb_of Sz128 ⟨by decide, by decide⟩
  have hat128 : cl128.slots[((1 : Int32)).toNatClampNeg]? = some (.int 1) := Has.at Hh128 hin128 rfl
  obtain ⟨cl129, Ar129, qk129, Sz129, Nz129, Hh129, Gg129⟩ := id Fc122
  have hin129 : ¬ ((1 : Int32) < 0 ∨ cl129.slots.size ≤ ((1 : Int32)).toNatClampNeg) := inb_of Sz129 ⟨by decide, by decide⟩
  have hat129 : cl129.slots[((1 : Int32)).toNatClampNeg]? = some (.double 4611686018427387904) := Has.at Hh129 hin129 rfl
  obtain ⟨cl130, Ar130, qk130, Sz130, Nz130, Hh130, Gg130⟩ := id Fc122
  have hin130 : ¬ ((2 : Int32) < 0 ∨ cl130.slots.size ≤ ((2 : Int32)).toNatClampNeg) := inb_of Sz130 ⟨by decide, by decide⟩
  have hat130 : cl130.slots[((2 : Int32)).toNatClampNeg]? = some (.double 4613937818241073152) := Has.at Hh130 hin130 rfl
  obtain ⟨cl131, Ar131, qk131, Sz131, Nz131, Hh131, Gg131⟩ := id Fc124
  have hin131 : ¬ ((2 : Int32) < 0 ∨ cl131.slots.size ≤ ((2 : Int32)).toNatClampNeg) := inb_of Sz131 ⟨by decide, by decide⟩
  have hat131 : cl131.slots[((2 : Int32)).toNatClampNeg]? = some (.int 1) := Has.at Hh131 hin131 rfl
  obtain ⟨cl132, Ar132, qk132, Sz132, Nz132, Hh132, Gg132⟩ := id Fc122
  have hin132 : ¬ ((2 : Int32) < 0 ∨ cl132.slots.size ≤ ((2 : Int32)).toNatClampNeg) := inb_of Sz132 ⟨by decide, by decide⟩
  have hat132 : cl132.slots[((2 : Int32)).toNatClampNeg]? = some (.double 4613937818241073152) := Has.at Hh132 hin132 rfl
  have Fc133 := (((((F_documentFrequency_r0.other W102 (Or.inr (sn10 hw))).other W106 (Or.inr (sn11 hw))).other W110 (Or.inr (sn12 hw))).other W115 (Or.inr (sn13 hw))).other W119 (Or.inr (sn14 hw)))
  have Fc134 := ((Fc114.wr W115).wr W119)
  obtain ⟨T135, h135, X135, e135, W135, st135⟩ := putF X119 hx hZ hown (host := "") (Or.inl (own_w hw 25 rfl)) Via.refl e119 Fc133 Fc134 (Or.inr ⟨(own_w hw 26 rfl), rfl, hnm⟩) (own_w hw 7 rfl) (ty := .double) (by decide) rfl rfl (g := (mkF m 81 #[.val (.ref r0), .val (.ref r1), .val (.ref r2), .val (.ref r3), .val (.int 0), .val (.int 3), .val (.double 4618441417868443648), .second, .val (.double 4618441417868443648), .second, .val (.int 3)] [(.double 4618441417868443648), (.ref r0)])) rfl rfl (hb hby d1_81)
  have Fw135 := Fc133.same W135
  have N135 := Fr.snoc X135 N119 g_r0
  have ZZ136 : n0 ≤ h135.size := Nat.le_trans ZZ120 (Nat.le_of_eq W135.size.symm)
  have KK137 : Keep h0 h135 [r0] := KK121.wr W135 (Or.inl (List.mem_of_getElem? (i := 0) rfl))
  have Fc138 := ((((((F_collectionFrequency_r0.other W102 (Or.inr (sn15 hw))).other W106 (Or.inr (sn16 hw))).other W110 (Or.inr (sn17 hw))).other W115 (Or.inr (sn18 hw))).other W119 (Or.inr (sn19 hw))).other W135 (Or.inr (sn20 hw)))
  obtain ⟨T139, h139, X139, e139, W139, st139⟩ := putF X135 hx hZ hown (host := "") (Or.inl (own_w hw 27 rfl)) Via.refl e135 Fc138 (Fc134.wr W135) (Or.inr ⟨(own_w hw 28 rfl), rfl, hnm⟩) (own_w hw 7 rfl) (ty := .double) (by decide) rfl rfl (g := (mkF m 87 #[.val (.ref r0), .val (.ref r1), .val (.ref r2), .val (.ref r3), .val (.int 0), .val (.int 3), .val (.double 4618441417868443648), .second, .val (.double 4618441417868443648), .second, .val (.int 3)] [(.double 4618441417868443648), (.ref r0)])) rfl rfl (hb hby d1_87)
  have Fw139 := Fc138.same W139
  have N139 := Fr.snoc X139 N135 g_r0
  have ZZ140 : n0 ≤ h139.size := Nat.le_trans ZZ136 (Nat.le_of_eq W139.size.symm)
  have KK141 : Keep h0 h139 [r0] := KK137.wr W139 (Or.inl (List.mem_of_getElem? (i := 0) rfl))
  obtain ⟨fs, hr, hrun, hended, hW, hsame⟩ := X139.leave (v := none) (fun _ => rfl)
  refine ⟨_, _, pre0 _ ?_, hrun, hended, _, _, rfl, ?_, ⟨_, rfl⟩, hW, hsame.mono (by decide) (by decide)⟩
  · show own_S p e below s₁ m 0 #[oR r0, oR r1, oR r2, oR r3, oI 0, oI 3, oU, oU, oU, oU, oU] [] _
    refine XS.aloadN X0.here hx rfl (hb hby d1_0) rfl rfl ?_
    show own_S p e below s₁ m 1 #[oR r0, oR r1, oR r2, oR r3, oI 0, oI 3, oU, oU, oU, oU, oU] [(.ref r0)] _
    refine st101 _ ?_
    show own_S p e below T101 m 4 #[oR r0, oR r1, oR r2, oR r3, oI 0, oI 3, oU, oU, oU, oU, oU] [] _
    refine XS.aloadN X101.here hx rfl (hb hby d1_4) rfl rfl ?_
    show own_S p e below T101 m 5 #[oR r0, oR r1, oR r2, oR r3, oI 0, oI 3, oU, oU, oU, oU, oU] [(.ref r0)] _
    refine XS.aloadN X101.here hx rfl (hb hby d1_5) rfl rfl ?_
    show own_S p e below T101 m 6 #[oR r0, oR r1, oR r2, oR r3, oI 0, oI 3, oU, oU, oU, oU, oU] [(.ref r1), (.ref r0)] _
    refine st102 _ ?_
    show own_S p e below T102 m 9 #[oR r0, oR r1, oR r2, oR r3, oI 0, oI 3, oU, oU, oU, oU, oU] [] _
    refine XS.aloadN X102.here hx rfl (hb hby d1_9) rfl rfl ?_
    show own_S p e below T102 m 10 #[oR r0, oR r1, oR r2, oR r3, oI 0, oI 3, oU, oU, oU, oU, oU] [(.ref r0)] _
    refine XS.aloadN X102.here hx rfl (hb hby d1_10) rfl rfl ?_
    show own_S p e below T102 m 11 #[oR r0, oR r1, oR r2, oR r3, oI 0, oI 3, oU, oU, oU, oU, oU] [(.ref r2), (.ref r0)] _
    refine st106 _ ?_
    show own_S p e below T106 m 14 #[oR r0, oR r1, oR r2, oR r3, oI 0, oI 3, oU, oU, oU, oU, oU] [] _
    refine XS.aloadN X106.here hx rfl (hb hby d1_14) rfl rfl ?_
    show own_S p e below T106 m 15 #[oR r0, oR r1, oR r2, oR r3, oI 0, oI 3, oU, oU, oU, oU, oU] [(.ref r0)] _
    refine XS.aloadN X106.here hx rfl (hb hby d1_15) rfl rfl ?_
    show own_S p e below T106 m 16 #[oR r0, oR r1, oR r2, oR r3, oI 0, oI 3, oU, oU, oU, oU, oU] [(.ref r3), (.ref r0)] _
    refine st110 _ ?_
    show own_S p e below T110 m 19 #[oR r0, oR r1, oR r2, oR r3, oI 0, oI 3, oU, oU, oU, oU, oU] [] _
    refine XS.aloadN X110.here hx rfl (hb hby d1_19) rfl rfl ?_
    show own_S p e below T110 m 20 #[oR r0, oR r1, oR r2, oR r3, oI 0, oI 3, oU, oU, oU, oU, oU] [(.ref r0)] _
    refine XS.iload X110.here hx rfl (hb hby d1_20) rfl ?_
    show own_S p e below T110 m 22 #[oR r0, oR r1, oR r2, oR r3, oI 0, oI 3, oU, oU, oU, oU, oU] [(.int 0), (.ref r0)] _
    refine st115 _ ?_
    show own_S p e below T115 m 25 #[oR r0, oR r1, oR r2, oR r3, oI 0, oI 3, oU, oU, oU, oU, oU] [] _
    refine XS.aloadN X115.here hx rfl (hb hby d1_25) rfl rfl ?_
    show own_S p e below T115 m 26 #[oR r0, oR r1, oR r2, oR r3, oI 0, oI 3, oU, oU, oU, oU, oU] [(.ref r0)] _
    refine XS.iload X115.here hx rfl (hb hby d1_26) rfl ?_
    show own_S p e below T115 m 28 #[oR r0, oR r1, oR r2, oR r3, oI 0, oI 3, oU, oU, oU, oU, oU] [(.int 3), (.ref r0)] _
    refine st119 _ ?_
    show own_S p e below T119 m 31 #[oR r0, oR r1, oR r2, oR r3, oI 0, oI 3, oU, oU, oU, oU, oU] [] _
    refine XS.dconst0 X119.here hx rfl (v := 0) (hb hby d1_31) rfl ?_
    show own_S p e below T119 m 32 #[oR r0, oR r1, oR r2, oR r3, oI 0, oI 3, oU, oU, oU, oU, oU] [(.double 0)] _
    refine XS.dstore X119.here hx rfl (hb hby d1_32) rfl (l' := #[.val (.ref r0), .val (.ref r1), .val (.ref r2), .val (.ref r3), .val (.int 0), .val (.int 3), .val (.double 0), .second, .unset, .unset, .unset]) rfl ?_
    show own_S p e below T119 m 34 #[oR r0, oR r1, oR r2, oR r3, oI 0, oI 3, oD 0, oV, oU, oU, oU] [] _
    refine XS.dconst0 X119.here hx rfl (v := 0) (hb hby d1_34) rfl ?_
    show own_S p e below T119 m 35 #[oR r0, oR r1, oR r2, oR r3, oI 0, oI 3, oD 0, oV, oU, oU, oU] [(.double 0)] _
    refine XS.dstore X119.here hx rfl (hb hby d1_35) rfl (l' := #[.val (.ref r0), .val (.ref r1), .val (.ref r2), .val (.ref r3), .val (.int 0), .val (.int 3), .val (.double 0), .second, .val (.double 0), .second, .unset]) rfl ?_
    show own_S p e below T119 m 37 #[oR r0, oR r1, oR r2, oR r3, oI 0, oI 3, oD 0, oV, oD 0, oV, oU] [] _
    refine XS.iload X119.here hx rfl (hb hby d1_37) rfl ?_
    show own_S p e below T119 m 39 #[oR r0, oR r1, oR r2, oR r3, oI 0, oI 3, oD 0, oV, oD 0, oV, oU] [(.int 0)] _
    refine XS.istore X119.here hx rfl (hb hby d1_39) rfl (l' := #[.val (.ref r0), .val (.ref r1), .val (.ref r2), .val (.ref r3), .val (.int 0), .val (.int 3), .val (.double 0), .second, .val (.double 0), .second, .val (.int 0)]) rfl ?_
    show own_S p e below T119 m 41 #[oR r0, oR r1, oR r2, oR r3, oI 0, oI 3, oD 0, oV, oD 0, oV, oI 0] [] _
    refine XS.iload X119.here hx rfl (hb hby d1_41) rfl ?_
    show own_S p e below T119 m 43 #[oR r0, oR r1, oR r2, oR r3, oI 0, oI 3, oD 0, oV, oD 0, oV, oI 0] [(.int 0)] _
    refine XS.iload X119.here hx rfl (hb hby d1_43) rfl ?_
    show own_S p e below T119 m 45 #[oR r0, oR r1, oR r2, oR r3, oI 0, oI 3, oD 0, oV, oD 0, oV, oI 0] [(.int 3), (.int 0)] _
    refine XS.icmpNo X119.here hx rfl (hb hby d1_45) rfl (tlt (by decide : (0 : Int32) < (3 : Int32))).2.1 ?_
    show own_S p e below T119 m 48 #[oR r0, oR r1, oR r2, oR r3, oI 0, oI 3, oD 0, oV, oD 0, oV, oI 0] [] _
    refine XS.dload X119.here hx rfl (hb hby d1_48) rfl ?_
    show own_S p e below T119 m 50 #[oR r0, oR r1, oR r2, oR r3, oI 0, oI 3, oD 0, oV, oD 0, oV, oI 0] [(.double 0)] _
    refine XS.aloadN X119.here hx rfl (hb hby d1_50) rfl rfl ?_
    show own_S p e below T119 m 51 #[oR r0, oR r1, oR r2, oR r3, oI 0, oI 3, oD 0, oV, oD 0, oV, oI 0] [(.ref r2), (.double 0)] _
    refine XS.iload X119.here hx rfl (hb hby d1_51) rfl ?_
    show own_S p e below T119 m 53 #[oR r0, oR r1, oR r2, oR r3, oI 0, oI 3, oD 0, oV, oD 0, oV, oI 0] [(.int 0), (.ref r2), (.double 0)] _
    refine X119.daload hx (j := (0 : Int32)) (v := (.double 4607182418800017408)) (by rw [e119]; exact Ar123.1) (State.isArrayOf_alike hZ.alike Ar123.2.1) Ar123.2.2 hin123 hat123 (g := (mkF m 53 #[.val (.ref r0), .val (.ref r1), .val (.ref r2), .val (.ref r3), .val (.int 0), .val (.int 3), .val (.double 0), .second, .val (.double 0), .second, .val (.int 0)] [(.int 0), (.ref r2), (.double 0)])) rfl rfl (hb hby d1_53) _ ?_
    show own_S p e below T119 m 54 #[oR r0, oR r1, oR r2, oR r3, oI 0, oI 3, oD 0, oV, oD 0, oV, oI 0] [(.double 4607182418800017408), (.double 0)] _
    refine XS.aloadN X119.here hx rfl (hb hby d1_54) rfl rfl ?_
    show own_S p e below T119 m 55 #[oR r0, oR r1, oR r2, oR r3, oI 0, oI 3, oD 0, oV, oD 0, oV, oI 0] [(.ref r3), (.double 4607182418800017408), (.double 0)] _
    refine XS.iload X119.here hx rfl (hb hby d1_55) rfl ?_
    show own_S p e below T119 m 57 #[oR r0, oR r1, oR r2, oR r3, oI 0, oI 3, oD 0, oV, oD 0, oV, oI 0] [(.int 0), (.ref r3), (.double 4607182418800017408), (.double 0)] _
    refine X119.iaload hx (j := (0 : Int32)) (v := (.int 1)) (by rw [e119]; exact Ar125.1) (State.isArrayOf_alike hZ.alike Ar125.2.1) Ar125.2.2 hin125 hat125 (g := (mkF m 57 #[.val (.ref r0), .val (.ref r1), .val (.ref r2), .val (.ref r3), .val (.int 0), .val (.int 3), .val (.double 0), .second, .val (.double 0), .second, .val (.int 0)] [(.int 0), (.ref r3), (.double 4607182418800017408), (.double 0)])) rfl rfl (hb hby d1_57) _ ?_
    show own_S p e below T119 m 58 #[oR r0, oR r1, oR r2, oR r3, oI 0, oI 3, oD 0, oV, oD 0, oV, oI 0] [(.int 1), (.double 4607182418800017408), (.double 0)] _
    refine XS.i2dS X119.here hx rfl (v := (4607182418800017408 : UInt64)) (hb hby d1_58) rfl (by decide +kernel) ?_
    show own_S p e below T119 m 59 #[oR r0, oR r1, oR r2, oR r3, oI 0, oI 3, oD 0, oV, oD 0, oV, oI 0] [(.double 4607182418800017408), (.double 4607182418800017408), (.double 0)] _
    refine XS.ddivS X119.here hx rfl (v := (4607182418800017408 : UInt64)) (hb hby d1_59) rfl (own_nnl (by decide +kernel : FP.ddiv (4607182418800017408 : UInt64) (4607182418800017408 : UInt64) = (4607182418800017408 : UInt64)) (by unfold NoNaN64; decide)) (by decide +kernel) ?_
    show own_S p e below T119 m 60 #[oR r0, oR r1, oR r2, oR r3, oI 0, oI 3, oD 0, oV, oD 0, oV, oI 0] [(.double 4607182418800017408), (.double 0)] _
    refine XS.daddS X119.here hx rfl (v := (4607182418800017408 : UInt64)) (hb hby d1_60) rfl (own_nnl (by decide +kernel : FP.dadd (0 : UInt64) (4607182418800017408 : UInt64) = (4607182418800017408 : UInt64)) (by unfold NoNaN64; decide)) (by decide +kernel) ?_
    show own_S p e below T119 m 61 #[oR r0, oR r1, oR r2, oR r3, oI 0, oI 3, oD 0, oV, oD 0, oV, oI 0] [(.double 4607182418800017408)] _
    refine XS.dstore X119.here hx rfl (hb hby d1_61) rfl (l' := #[.val (.ref r0), .val (.ref r1), .val (.ref r2), .val (.ref r3), .val (.int 0), .val (.int 3), .val (.double 4607182418800017408), .second, .val (.double 0), .second, .val (.int 0)]) rfl ?_
    show own_S p e below T119 m 63 #[oR r0, oR r1, oR r2, oR r3, oI 0, oI 3, oD 4607182418800017408, oV, oD 0, oV, oI 0] [] _
    refine XS.dload X119.here hx rfl (hb hby d1_63) rfl ?_
    show own_S p e below T119 m 65 #[oR r0, oR r1, oR r2, oR r3, oI 0, oI 3, oD 4607182418800017408, oV, oD 0, oV, oI 0] [(.double 0)] _
    refine XS.aloadN X119.here hx rfl (hb hby d1_65) rfl rfl ?_
    show own_S p e below T119 m 66 #[oR r0, oR r1, oR r2, oR r3, oI 0, oI 3, oD 4607182418800017408, oV, oD 0, oV, oI 0] [(.ref r2), (.double 0)] _
    refine XS.iload X119.here hx rfl (hb hby d1_66) rfl ?_
    show own_S p e below T119 m 68 #[oR r0, oR r1, oR r2, oR r3, oI 0, oI 3, oD 4607182418800017408, oV, oD 0, oV, oI 0] [(.int 0), (.ref r2), (.double 0)] _
    refine X119.daload hx (j := (0 : Int32)) (v := (.double 4607182418800017408)) (by rw [e119]; exact Ar126.1) (State.isArrayOf_alike hZ.alike Ar126.2.1) Ar126.2.2 hin126 hat126 (g := (mkF m 68 #[.val (.ref r0), .val (.ref r1), .val (.ref r2), .val (.ref r3), .val (.int 0), .val (.int 3), .val (.double 4607182418800017408), .second, .val (.double 0), .second, .val (.int 0)] [(.int 0), (.ref r2), (.double 0)])) rfl rfl (hb hby d1_68) _ ?_
    show own_S p e below T119 m 69 #[oR r0, oR r1, oR r2, oR r3, oI 0, oI 3, oD 4607182418800017408, oV, oD 0, oV, oI 0] [(.double 4607182418800017408), (.double 0)] _
    refine XS.daddS X119.here hx rfl (v := (4607182418800017408 : UInt64)) (hb hby d1_69) rfl (own_nnl (by decide +kernel : FP.dadd (0 : UInt64) (4607182418800017408 : UInt64) = (4607182418800017408 : UInt64)) (by unfold NoNaN64; decide)) (by decide +kernel) ?_
    show own_S p e below T119 m 70 #[oR r0, oR r1, oR r2, oR r3, oI 0, oI 3, oD 4607182418800017408, oV, oD 0, oV, oI 0] [(.double 4607182418800017408)] _
    refine XS.dstore X119.here hx rfl (hb hby d1_70) rfl (l' := #[.val (.ref r0), .val (.ref r1), .val (.ref r2), .val (.ref r3), .val (.int 0), .val (.int 3), .val (.double 4607182418800017408), .second, .val (.double 4607182418800017408), .second, .val (.int 0)]) rfl ?_
    show own_S p e below T119 m 72 #[oR r0, oR r1, oR r2, oR r3, oI 0, oI 3, oD 4607182418800017408, oV, oD 4607182418800017408, oV, oI 0] [] _
    refine XS.iinc X119.here hx rfl (hb hby d1_72) rfl (l' := #[.val (.ref r0), .val (.ref r1), .val (.ref r2), .val (.ref r3), .val (.int 0), .val (.int 3), .val (.double 4607182418800017408), .second, .val (.double 4607182418800017408), .second, .val (.int 1)]) rfl ?_
    show own_S p e below T119 m 75 #[oR r0, oR r1, oR r2, oR r3, oI 0, oI 3, oD 4607182418800017408, oV, oD 4607182418800017408, oV, oI 1] [] _
    refine XS.goto X119.here hx rfl (pc0 := 75) (pc' := 41) rfl (hb hby d1_75) (by decide) (by decide) ?_
    show own_S p e below T119 m 41 #[oR r0, oR r1, oR r2, oR r3, oI 0, oI 3, oD 4607182418800017408, oV, oD 4607182418800017408, oV, oI 1] [] _
    refine XS.iload X119.here hx rfl (hb hby d1_41) rfl ?_
    show own_S p e below T119 m 43 #[oR r0, oR r1, oR r2, oR r3, oI 0, oI 3, oD 4607182418800017408, oV, oD 4607182418800017408, oV, oI 1] [(.int 1)] _
    refine XS.iload X119.here hx rfl (hb hby d1_43) rfl ?_
    show own_S p e below T119 m 45 #[oR r0, oR r1, oR r2, oR r3, oI 0, oI 3, oD 4607182418800017408, oV, oD 4607182418800017408, oV, oI 1] [(.int 3), (.int 1)] _
    refine XS.icmpNo X119.here hx rfl (hb hby d1_45) rfl (tlt (by decide : (1 : Int32) < (3 : Int32))).2.1 ?_
    show own_S p e below T119 m 48 #[oR r0, oR r1, oR r2, oR r3, oI 0, oI 3, oD 4607182418800017408, oV, oD 4607182418800017408, oV, oI 1] [] _
    refine XS.dload X119.here hx rfl (hb hby d1_48) rfl ?_
    show own_S p e below T119 m 50 #[oR r0, oR r1, oR r2, oR r3, oI 0, oI 3, oD 4607182418800017408, oV, oD 4607182418800017408, oV, oI 1] [(.double 4607182418800017408)] _
    refine XS.aloadN X119.here hx rfl (hb hby d1_50) rfl rfl ?_
    show own_S p e below T119 m 51 #[oR r0, oR r1, oR r2, oR r3, oI 0, oI 3, oD 4607182418800017408, oV, oD 4607182418800017408, oV, oI 1] [(.ref r2), (.double 4607182418800017408)] _
    refine XS.iload X119.here hx rfl (hb hby d1_51) rfl ?_
    show own_S p e below T119 m 53 #[oR r0, oR r1, oR r2, oR r3, oI 0, oI 3, oD 4607182418800017408, oV, oD 4607182418800017408, oV, oI 1] [(.int 1), (.ref r2), (.double 4607182418800017408)] _
    refine X119.daload hx (j := (1 : Int32)) (v := (.double 4611686018427387904)) (by rw [e119]; exact Ar127.1) (State.isArrayOf_alike hZ.alike Ar127.2.1) Ar127.2.2 hin127 hat127 (g := (mkF m 53 #[.val (.ref r0), .val (.ref r1), .val (.ref r2), .val (.ref r3), .val (.int 0), .val (.int 3), .val (.double 4607182418800017408), .second, .val (.double 4607182418800017408), .second, .val (.int 1)] [(.int 1), (.ref r2), (.double 4607182418800017408)])) rfl rfl (hb hby d1_53) _ ?_
    show own_S p e below T119 m 54 #[oR r0, oR r1, oR r2, oR r3, oI 0, oI 3, oD 4607182418800017408, oV, oD 4607182418800017408, oV, oI 1] [(.double 4611686018427387904), (.double 4607182418800017408)] _
    refine XS.aloadN X119.here hx rfl (hb hby d1_54) rfl rfl ?_
    show own_S p e below T119 m 55 #[oR r0, oR r1, oR r2, oR r3, oI 0, oI 3, oD 4607182418800017408, oV, oD 4607182418800017408, oV, oI 1] [(.ref r3), (.double 4611686018427387904), (.double 4607182418800017408)] _
    refine XS.iload X119.here hx rfl (hb hby d1_55) rfl ?_
    show own_S p e below T119 m 57 #[oR r0, oR r1, oR r2, oR r3, oI 0, oI 3, oD 4607182418800017408, oV, oD 4607182418800017408, oV, oI 1] [(.int 1), (.ref r3), (.double 4611686018427387904), (.double 4607182418800017408)] _
    refine X119.iaload hx (j := (1 : Int32)) (v := (.int 1)) (by rw [e119]; exact Ar128.1) (State.isArrayOf_alike hZ.alike Ar128.2.1) Ar128.2.2 hin128 hat128 (g := (mkF m 57 #[.val (.ref r0), .val (.ref r1), .val (.ref r2), .val (.ref r3), .val (.int 0), .val (.int 3), .val (.double 4607182418800017408), .second, .val (.double 4607182418800017408), .second, .val (.int 1)] [(.int 1), (.ref r3), (.double 4611686018427387904), (.double 4607182418800017408)])) rfl rfl (hb hby d1_57) _ ?_
    show own_S p e below T119 m 58 #[oR r0, oR r1, oR r2, oR r3, oI 0, oI 3, oD 4607182418800017408, oV, oD 4607182418800017408, oV, oI 1] [(.int 1), (.double 4611686018427387904), (.double 4607182418800017408)] _
    refine XS.i2dS X119.here hx rfl (v := (4607182418800017408 : UInt64)) (hb hby d1_58) rfl (by decide +kernel) ?_
    show own_S p e below T119 m 59 #[oR r0, oR r1, oR r2, oR r3, oI 0, oI 3, oD 4607182418800017408, oV, oD 4607182418800017408, oV, oI 1] [(.double 4607182418800017408), (.double 4611686018427387904), (.double 4607182418800017408)] _
    refine XS.ddivS X119.here hx rfl (v := (4611686018427387904 : UInt64)) (hb hby d1_59) rfl (own_nnl (by decide +kernel : FP.ddiv (4611686018427387904 : UInt64) (4607182418800017408 : UInt64) = (4611686018427387904 : UInt64)) (by unfold NoNaN64; decide)) (by decide +kernel) ?_
    show own_S p e below T119 m 60 #[oR r0, oR r1, oR r2, oR r3, oI 0, oI 3, oD 4607182418800017408, oV, oD 4607182418800017408, oV, oI 1] [(.double 4611686018427387904), (.double 4607182418800017408)] _
    refine XS.daddS X119.here hx rfl (v := (4613937818241073152 : UInt64)) (hb hby d1_60) rfl (own_nnl (by decide +kernel : FP.dadd (4607182418800017408 : UInt64) (4611686018427387904 : UInt64) = (4613937818241073152 : UInt64)) (by unfold NoNaN64; decide)) (by decide +kernel) ?_
    show own_S p e below T119 m 61 #[oR r0, oR r1, oR r2, oR r3, oI 0, oI 3, oD 4607182418800017408, oV, oD 4607182418800017408, oV, oI 1] [(.double 4613937818241073152)] _
    refine XS.dstore X119.here hx rfl (hb hby d1_61) rfl (l' := #[.val (.ref r0), .val (.ref r1), .val (.ref r2), .val (.ref r3), .val (.int 0), .val (.int 3), .val (.double 4613937818241073152), .second, .val (.double 4607182418800017408), .second, .val (.int 1)]) rfl ?_
    show own_S p e below T119 m 63 #[oR r0, oR r1, oR r2, oR r3, oI 0, oI 3, oD 4613937818241073152, oV, oD 4607182418800017408, oV, oI 1] [] _
    refine XS.dload X119.here hx rfl (hb hby d1_63) rfl ?_
    show own_S p e below T119 m 65 #[oR r0, oR r1, oR r2, oR r3, oI 0, oI 3, oD 4613937818241073152, oV, oD 4607182418800017408, oV, oI 1] [(.double 4607182418800017408)] _
    refine XS.aloadN X119.here hx rfl (hb hby d1_65) rfl rfl ?_
    show own_S p e below T119 m 66 #[oR r0, oR r1, oR r2, oR r3, oI 0, oI 3, oD 4613937818241073152, oV, oD 4607182418800017408, oV, oI 1] [(.ref r2), (.double 4607182418800017408)] _
    refine XS.iload X119.here hx rfl (hb hby d1_66) rfl ?_
    show own_S p e below T119 m 68 #[oR r0, oR r1, oR r2, oR r3, oI 0, oI 3, oD 4613937818241073152, oV, oD 4607182418800017408, oV, oI 1] [(.int 1), (.ref r2), (.double 4607182418800017408)] _
    refine X119.daload hx (j := (1 : Int32)) (v := (.double 4611686018427387904)) (by rw [e119]; exact Ar129.1) (State.isArrayOf_alike hZ.alike Ar129.2.1) Ar129.2.2 hin129 hat129 (g := (mkF m 68 #[.val (.ref r0), .val (.ref r1), .val (.ref r2), .val (.ref r3), .val (.int 0), .val (.int 3), .val (.double 4613937818241073152), .second, .val (.double 4607182418800017408), .second, .val (.int 1)] [(.int 1), (.ref r2), (.double 4607182418800017408)])) rfl rfl (hb hby d1_68) _ ?_
    show own_S p e below T119 m 69 #[oR r0, oR r1, oR r2, oR r3, oI 0, oI 3, oD 4613937818241073152, oV, oD 4607182418800017408, oV, oI 1] [(.double 4611686018427387904), (.double 4607182418800017408)] _
    refine XS.daddS X119.here hx rfl (v := (4613937818241073152 : UInt64)) (hb hby d1_69) rfl (own_nnl (by decide +kernel : FP.dadd (4607182418800017408 : UInt64) (4611686018427387904 : UInt64) = (4613937818241073152 : UInt64)) (by unfold NoNaN64; decide)) (by decide +kernel) ?_
    show own_S p e below T119 m 70 #[oR r0, oR r1, oR r2, oR r3, oI 0, oI 3, oD 4613937818241073152, oV, oD 4607182418800017408, oV, oI 1] [(.double 4613937818241073152)] _
    refine XS.dstore X119.here hx rfl (hb hby d1_70) rfl (l' := #[.val (.ref r0), .val (.ref r1), .val (.ref r2), .val (.ref r3), .val (.int 0), .val (.int 3), .val (.double 4613937818241073152), .second, .val (.double 4613937818241073152), .second, .val (.int 1)]) rfl ?_
    show own_S p e below T119 m 72 #[oR r0, oR r1, oR r2, oR r3, oI 0, oI 3, oD 4613937818241073152, oV, oD 4613937818241073152, oV, oI 1] [] _
    refine XS.iinc X119.here hx rfl (hb hby d1_72) rfl (l' := #[.val (.ref r0), .val (.ref r1), .val (.ref r2), .val (.ref r3), .val (.int 0), .val (.int 3), .val (.double 4613937818241073152), .second, .val (.double 4613937818241073152), .second, .val (.int 2)]) rfl ?_
    show own_S p e below T119 m 75 #[oR r0, oR r1, oR r2, oR r3, oI 0, oI 3, oD 4613937818241073152, oV, oD 4613937818241073152, oV, oI 2] [] _
    refine XS.goto X119.here hx rfl (pc0 := 75) (pc' := 41) rfl (hb hby d1_75) (by decide) (by decide) ?_
    show own_S p e below T119 m 41 #[oR r0, oR r1, oR r2, oR r3, oI 0, oI 3, oD 4613937818241073152, oV, oD 4613937818241073152, oV, oI 2] [] _
    refine XS.iload X119.here hx rfl (hb hby d1_41) rfl ?_
    show own_S p e below T119 m 43 #[oR r0, oR r1, oR r2, oR r3, oI 0, oI 3, oD 4613937818241073152, oV, oD 4613937818241073152, oV, oI 2] [(.int 2)] _
    refine XS.iload X119.here hx rfl (hb hby d1_43) rfl ?_
    show own_S p e below T119 m 45 #[oR r0, oR r1, oR r2, oR r3, oI 0, oI 3, oD 4613937818241073152, oV, oD 4613937818241073152, oV, oI 2] [(.int 3), (.int 2)] _
    refine XS.icmpNo X119.here hx rfl (hb hby d1_45) rfl (tlt (by decide : (2 : Int32) < (3 : Int32))).2.1 ?_
    show own_S p e below T119 m 48 #[oR r0, oR r1, oR r2, oR r3, oI 0, oI 3, oD 4613937818241073152, oV, oD 4613937818241073152, oV, oI 2] [] _
    refine XS.dload X119.here hx rfl (hb hby d1_48) rfl ?_
    show own_S p e below T119 m 50 #[oR r0, oR r1, oR r2, oR r3, oI 0, oI 3, oD 4613937818241073152, oV, oD 4613937818241073152, oV, oI 2] [(.double 4613937818241073152)] _
    refine XS.aloadN X119.here hx rfl (hb hby d1_50) rfl rfl ?_
    show own_S p e below T119 m 51 #[oR r0, oR r1, oR r2, oR r3, oI 0, oI 3, oD 4613937818241073152, oV, oD 4613937818241073152, oV, oI 2] [(.ref r2), (.double 4613937818241073152)] _
    refine XS.iload X119.here hx rfl (hb hby d1_51) rfl ?_
    show own_S p e below T119 m 53 #[oR r0, oR r1, oR r2, oR r3, oI 0, oI 3, oD 4613937818241073152, oV, oD 4613937818241073152, oV, oI 2] [(.int 2), (.ref r2), (.double 4613937818241073152)] _
    refine X119.daload hx (j := (2 : Int32)) (v := (.double 4613937818241073152)) (by rw [e119]; exact Ar130.1) (State.isArrayOf_alike hZ.alike Ar130.2.1) Ar130.2.2 hin130 hat130 (g := (mkF m 53 #[.val (.ref r0), .val (.ref r1), .val (.ref r2), .val (.ref r3), .val (.int 0), .val (.int 3), .val (.double 4613937818241073152), .second, .val (.double 4613937818241073152), .second, .val (.int 2)] [(.int 2), (.ref r2), (.double 4613937818241073152)])) rfl rfl (hb hby d1_53) _ ?_
    show own_S p e below T119 m 54 #[oR r0, oR r1, oR r2, oR r3, oI 0, oI 3, oD 4613937818241073152, oV, oD 4613937818241073152, oV, oI 2] [(.double 4613937818241073152), (.double 4613937818241073152)] _
    refine XS.aloadN X119.here hx rfl (hb hby d1_54) rfl rfl ?_
    show own_S p e below T119 m 55 #[oR r0, oR r1, oR r2, oR r3, oI 0, oI 3, oD 4613937818241073152, oV, oD 4613937818241073152, oV, oI 2] [(.ref r3), (.double 4613937818241073152), (.double 4613937818241073152)] _
    refine XS.iload X119.here hx rfl (hb hby d1_55) rfl ?_
    show own_S p e below T119 m 57 #[oR r0, oR r1, oR r2, oR r3, oI 0, oI 3, oD 4613937818241073152, oV, oD 4613937818241073152, oV, oI 2] [(.int 2), (.ref r3), (.double 4613937818241073152), (.double 4613937818241073152)] _
    refine X119.iaload hx (j := (2 : Int32)) (v := (.int 1)) (by rw [e119]; exact Ar131.1) (State.isArrayOf_alike hZ.alike Ar131.2.1) Ar131.2.2 hin131 hat131 (g := (mkF m 57 #[.val (.ref r0), .val (.ref r1), .val (.ref r2), .val (.ref r3), .val (.int 0), .val (.int 3), .val (.double 4613937818241073152), .second, .val (.double 4613937818241073152), .second, .val (.int 2)] [(.int 2), (.ref r3), (.double 4613937818241073152), (.double 4613937818241073152)])) rfl rfl (hb hby d1_57) _ ?_
    show own_S p e below T119 m 58 #[oR r0, oR r1, oR r2, oR r3, oI 0, oI 3, oD 4613937818241073152, oV, oD 4613937818241073152, oV, oI 2] [(.int 1), (.double 4613937818241073152), (.double 4613937818241073152)] _
    refine XS.i2dS X119.here hx rfl (v := (4607182418800017408 : UInt64)) (hb hby d1_58) rfl (by decide +kernel) ?_
    show own_S p e below T119 m 59 #[oR r0, oR r1, oR r2, oR r3, oI 0, oI 3, oD 4613937818241073152, oV, oD 4613937818241073152, oV, oI 2] [(.double 4607182418800017408), (.double 4613937818241073152), (.double 4613937818241073152)] _
    refine XS.ddivS X119.here hx rfl (v := (4613937818241073152 : UInt64)) (hb hby d1_59) rfl (own_nnl (by decide +kernel : FP.ddiv (4613937818241073152 : UInt64) (4607182418800017408 : UInt64) = (4613937818241073152 : UInt64)) (by unfold NoNaN64; decide)) (by decide +kernel) ?_
    show own_S p e below T119 m 60 #[oR r0, oR r1, oR r2, oR r3, oI 0, oI 3, oD 4613937818241073152, oV, oD 4613937818241073152, oV, oI 2] [(.double 4613937818241073152), (.double 4613937818241073152)] _
    refine XS.daddS X119.here hx rfl (v := (4618441417868443648 : UInt64)) (hb hby d1_60) rfl (own_nnl (by decide +kernel : FP.dadd (4613937818241073152 : UInt64) (4613937818241073152 : UInt64) = (4618441417868443648 : UInt64)) (by unfold NoNaN64; decide)) (by decide +kernel) ?_
    show own_S p e below T119 m 61 #[oR r0, oR r1, oR r2, oR r3, oI 0, oI 3, oD 4613937818241073152, oV, oD 4613937818241073152, oV, oI 2] [(.double 4618441417868443648)] _
    refine XS.dstore X119.here hx rfl (hb hby d1_61) rfl (l' := #[.val (.ref r0), .val (.ref r1), .val (.ref r2), .val (.ref r3), .val (.int 0), .val (.int 3), .val (.double 4618441417868443648), .second, .val (.double 4613937818241073152), .second, .val (.int 2)]) rfl ?_
    show own_S p e below T119 m 63 #[oR r0, oR r1, oR r2, oR r3, oI 0, oI 3, oD 4618441417868443648, oV, oD 4613937818241073152, oV, oI 2] [] _
    refine XS.dload X119.here hx rfl (hb hby d1_63) rfl ?_
    show own_S p e below T119 m 65 #[oR r0, oR r1, oR r2, oR r3, oI 0, oI 3, oD 4618441417868443648, oV, oD 4613937818241073152, oV, oI 2] [(.double 4613937818241073152)] _
    refine XS.aloadN X119.here hx rfl (hb hby d1_65) rfl rfl ?_
    show own_S p e below T119 m 66 #[oR r0, oR r1, oR r2, oR r3, oI 0, oI 3, oD 4618441417868443648, oV, oD 4613937818241073152, oV, oI 2] [(.ref r2), (.double 4613937818241073152)] _
    refine XS.iload X119.here hx rfl (hb hby d1_66) rfl ?_
    show own_S p e below T119 m 68 #[oR r0, oR r1, oR r2, oR r3, oI 0, oI 3, oD 4618441417868443648, oV, oD 4613937818241073152, oV, oI 2] [(.int 2), (.ref r2), (.double 4613937818241073152)] _
    refine X119.daload hx (j := (2 : Int32)) (v := (.double 4613937818241073152)) (by rw [e119]; exact Ar132.1) (State.isArrayOf_alike hZ.alike Ar132.2.1) Ar132.2.2 hin132 hat132 (g := (mkF m 68 #[.val (.ref r0), .val (.ref r1), .val (.ref r2), .val (.ref r3), .val (.int 0), .val (.int 3), .val (.double 4618441417868443648), .second, .val (.double 4613937818241073152), .second, .val (.int 2)] [(.int 2), (.ref r2), (.double 4613937818241073152)])) rfl rfl (hb hby d1_68) _ ?_
    show own_S p e below T119 m 69 #[oR r0, oR r1, oR r2, oR r3, oI 0, oI 3, oD 4618441417868443648, oV, oD 4613937818241073152, oV, oI 2] [(.double 4613937818241073152), (.double 4613937818241073152)] _
    refine XS.daddS X119.here hx rfl (v := (4618441417868443648 : UInt64)) (hb hby d1_69) rfl (own_nnl (by decide +kernel : FP.dadd (4613937818241073152 : UInt64) (4613937818241073152 : UInt64) = (4618441417868443648 : UInt64)) (by unfold NoNaN64; decide)) (by decide +kernel) ?_
    show own_S p e below T119 m 70 #[oR r0, oR r1, oR r2, oR r3, oI 0, oI 3, oD 4618441417868443648, oV, oD 4613937818241073152, oV, oI 2] [(.double 4618441417868443648)] _
    refine XS.dstore X119.here hx rfl (hb hby d1_70) rfl (l' := #[.val (.ref r0), .val (.ref r1), .val (.ref r2), .val (.ref r3), .val (.int 0), .val (.int 3), .val (.double 4618441417868443648), .second, .val (.double 4618441417868443648), .second, .val (.int 2)]) rfl ?_
    show own_S p e below T119 m 72 #[oR r0, oR r1, oR r2, oR r3, oI 0, oI 3, oD 4618441417868443648, oV, oD 4618441417868443648, oV, oI 2] [] _
    refine XS.iinc X119.here hx rfl (hb hby d1_72) rfl (l' := #[.val (.ref r0), .val (.ref r1), .val (.ref r2), .val (.ref r3), .val (.int 0), .val (.int 3), .val (.double 4618441417868443648), .second, .val (.double 4618441417868443648), .second, .val (.int 3)]) rfl ?_
    show own_S p e below T119 m 75 #[oR r0, oR r1, oR r2, oR r3, oI 0, oI 3, oD 4618441417868443648, oV, oD 4618441417868443648, oV, oI 3] [] _
    refine XS.goto X119.here hx rfl (pc0 := 75) (pc' := 41) rfl (hb hby d1_75) (by decide) (by decide) ?_
    show own_S p e below T119 m 41 #[oR r0, oR r1, oR r2, oR r3, oI 0, oI 3, oD 4618441417868443648, oV, oD 4618441417868443648, oV, oI 3] [] _
    refine XS.iload X119.here hx rfl (hb hby d1_41) rfl ?_
    show own_S p e below T119 m 43 #[oR r0, oR r1, oR r2, oR r3, oI 0, oI 3, oD 4618441417868443648, oV, oD 4618441417868443648, oV, oI 3] [(.int 3)] _
    refine XS.iload X119.here hx rfl (hb hby d1_43) rfl ?_
    show own_S p e below T119 m 45 #[oR r0, oR r1, oR r2, oR r3, oI 0, oI 3, oD 4618441417868443648, oV, oD 4618441417868443648, oV, oI 3] [(.int 3), (.int 3)] _
    refine XS.icmpYes X119.here hx rfl (pc0 := 45) (pc' := 78) rfl (hb hby d1_45) rfl (flt (by decide : ¬ ((3 : Int32) < (3 : Int32)))).2.1 (by decide) (by decide) ?_
    show own_S p e below T119 m 78 #[oR r0, oR r1, oR r2, oR r3, oI 0, oI 3, oD 4618441417868443648, oV, oD 4618441417868443648, oV, oI 3] [] _
    refine XS.aloadN X119.here hx rfl (hb hby d1_78) rfl rfl ?_
    show own_S p e below T119 m 79 #[oR r0, oR r1, oR r2, oR r3, oI 0, oI 3, oD 4618441417868443648, oV, oD 4618441417868443648, oV, oI 3] [(.ref r0)] _
    refine XS.dload X119.here hx rfl (hb hby d1_79) rfl ?_
    show own_S p e below T119 m 81 #[oR r0, oR r1, oR r2, oR r3, oI 0, oI 3, oD 4618441417868443648, oV, oD 4618441417868443648, oV, oI 3] [(.double 4618441417868443648), (.ref r0)] _
    refine st135 _ ?_
    show own_S p e below T135 m 84 #[oR r0, oR r1, oR r2, oR r3, oI 0, oI 3, oD 4618441417868443648, oV, oD 4618441417868443648, oV, oI 3] [] _
    refine XS.aloadN X135.here hx rfl (hb hby d1_84) rfl rfl ?_
    show own_S p e below T135 m 85 #[oR r0, oR r1, oR r2, oR r3, oI 0, oI 3, oD 4618441417868443648, oV, oD 4618441417868443648, oV, oI 3] [(.ref r0)] _
    refine XS.dload X135.here hx rfl (hb hby d1_85) rfl ?_
    show own_S p e below T135 m 87 #[oR r0, oR r1, oR r2, oR r3, oI 0, oI 3, oD 4618441417868443648, oV, oD 4618441417868443648, oV, oI 3] [(.double 4618441417868443648), (.ref r0)] _
    refine st139 _ ?_
    show own_S p e below T139 m 90 #[oR r0, oR r1, oR r2, oR r3, oI 0, oI 3, oD 4618441417868443648, oV, oD 4618441417868443648, oV, oI 3] [] _
    exact X139.returnOut hx Bd.returns (hb hby d1_90) hr
  · show Q1_0_3 Z r0 r1 r2 r3 u0 u1 u2 u3 u4 u5 u6 kd ko h0 n0 _ T139.heap _
    rw [e139]
    exact ⟨rfl, N139, KK141, ((Fc134.wr W135).wr W139), ((((((Fw102.other W106 (Or.inr (sn21 hw))).other W110 (Or.inr (sn22 hw))).other W115 (Or.inr (sn23 hw))).other W119 (Or.inr (sn24 hw))).other W135 (Or.inr (sn25 hw))).other W139 (Or.inr (sn26 hw))), (((Fw115.other W119 (Or.inr (sn27 hw))).other W135 (Or.inr (sn28 hw))).other W139 (Or.inr (sn29 hw))), ((Fw119.other W135 (Or.inr (sn30 hw))).other W139 (Or.inr (sn31 hw)))⟩
theorem ef1_0_4 (m : MethodId) (r0 : Addr) (r1 : Addr) (r2 : Addr) (r3 : Addr) : entryFrame m #[(.ref r0), (.ref r1), (.ref r2), (.ref r3), (.int 0), (.int 4)] 11 = mkF m 0 #[.val (.ref r0), .val (.ref r1), .val (.ref r2), .val (.ref r3), .val (.int 0), .val (.int 4), .unset, .unset, .unset, .unset, .unset] [] := by first | (simp [entryFrame, mkF, argsToLocals, Value.category]; done) | rfl
def Q1_0_4 (Z : State) (r0 : Addr) (r1 : Addr) (r2 : Addr) (r3 : Addr) (u0 : Value) (u1 : Value) (u2 : Value) (u3 : Value) (u4 : Value) (u5 : Value) (u6 : Value) (kd : ClassId) (ko : ClassId) (h0 : Heap) (n0 : Nat) (v : Option Value) (h : Heap) (L : List Loc) : Prop := v = none ∧ Fr n0 L ∧ (Keep h0 h [r0]) ∧ (Exa Z h r0 "com/example/buurt/buurt/model/CrossTermFrequencies") ∧ (Fld Z h r0 "com/example/buurt/buurt/model/CrossTermFrequencies" "docs" "[I" (.ref r1)) ∧ (Fld Z h r0 "com/example/buurt/buurt/model/CrossTermFrequencies" "from" "I" (.int 0)) ∧ (Fld Z h r0 "com/example/buurt/buurt/model/CrossTermFrequencies" "to" "I" (.int 4))
set_option maxRecDepth 65536 in
set_option maxHeartbeats 40000000 in
theorem rm1_0_4 (l : Launch) (Z : State) (a0 : Array Value) (hw : ∀ d ∈ tables_1, d.before a0 Z = true) (ws : List Jvm.Cond) (r0 : Addr) (r1 : Addr) (r2 : Addr) (r3 : Addr) (u0 : Value) (u1 : Value) (u2 : Value) (u3 : Value) (u4 : Value) (u5 : Value) (u6 : Value) (kd : ClassId) (ko : ClassId) (h0 : Heap) (n0 : Nat) (Z0 : n0 ≤ h0.size) (F_docs_r0 : Fld Z h0 r0 "com/example/buurt/buurt/model/CrossTermFrequencies" "docs" "[I" u0) (F_tfs_r0 : Fld Z h0 r0 "com/example/buurt/buurt/model/CrossTermFrequencies" "tfs" "[D" u1) (F_occurs_r0 : Fld Z h0 r0 "com/example/buurt/buurt/model/CrossTermFrequencies" "occurs" "[I" u2) (F_from_r0 : Fld Z h0 r0 "com/example/buurt/buurt/model/CrossTermFrequencies" "from" "I" u3) (F_to_r0 : Fld Z h0 r0 "com/example/buurt/buurt/model/CrossTermFrequencies" "to" "I" u4) (F_documentFrequency_r0 : Fld Z h0 r0 "com/example/buurt/buurt/model/CrossTermFrequencies" "documentFrequency" "D" u5) (F_collectionFrequency_r0 : Fld Z h0 r0 "com/example/buurt/buurt/model/CrossTermFrequencies" "collectionFrequency" "D" u6) (E_r0 : Exa Z h0 r0 "com/example/buurt/buurt/model/CrossTermFrequencies") (g_r0 : n0 ≤ r0) (V_r2 : Arv Z h0 r2 kd .double (4 : Int32) [(.double 4607182418800017408), (.double 4611686018427387904), (.double 4613937818241073152), (.double 4616189618054758400)] (.double 0)) (V_r3 : Arv Z h0 r3 ko .int (4 : Int32) [(.int 1), (.int 1), (.int 1), (.int 1)] (.int 0)) (ne_r2_r0 : r2 ≠ r0) (ne_r3_r0 : r3 ≠ r0) :
    MetFree l (⟨"com/example/buurt/buurt/model/CrossTermFrequencies", "<init>", "([I[D[III)V"⟩ : MethodName) (head1 (Jvm.Cond.code (⟨"com/example/buurt/buurt/model/CrossTermFrequencies", "<init>", "([I[D[III)V"⟩ : MethodName) prog_27_method_1_code 11 none :: ws) ({ frames := 1, cells := 0, slots := 0, locals := 12 } : Room)) (fun a U => a = #[(.ref r0), (.ref r1), (.ref r2), (.ref r3), (.int 0), (.int 4)] ∧ Z.Warmed39 U.vm ∧ U.heap = h0) (fun _ _ _ _ _ => True) (fun _ U o U' => ∃ v L, o = .returned v ∧ Q1_0_4 Z r0 r1 r2 r3 u0 u1 u2 u3 u4 u5 u6 kd ko h0 n0 v U'.heap L ∧ FrameEnd U o U' L ({ frames := 1, cells := 0, slots := 0, locals := 12 } : Room).cells ({ frames := 1, cells := 0, slots := 0, locals := 12 } : Room).slots) := by
  refine MetFree.of_bodySF (plainFor_of_name pn0) hisR ?_
  intro p e s m args below meth c s₁ Bd hml0 hP hK
  obtain ⟨rfl, hZ, hh⟩ := hP
  have hx := Bd.exec
  have hby := Bd.bytes
  have hml : c.maxLocals = 11 := hml0
  have hown : s.vm.findClass "com/example/buurt/buurt/model/CrossTermFrequencies" = some m.cls := findClass_of_methodNamed Bd.named
  have hnm := (name_of_methodNamed Bd.named Bd.method).1
  have X0 : Stand p l e ({ frames := 1, cells := 0, slots := 0, locals := 12 } : Room) s m #[(.ref r0), (.ref r1), (.ref r2), (.ref r3), (.int 0), (.int 4)] below meth c s₁ [] 0 0 := Stand.of_body Bd
  have e0 : s₁.heap = h0 := by rw [← hh, Bd.state]; rfl
  have N0 := Fr.nil n0
  have pre0 : ∀ t, Steps p.tables e below (s₁.setTop (mkF m 0 #[.val (.ref r0), .val (.ref r1), .val (.ref r2), .val (.ref r3), .val (.int 0), .val (.int 4), .unset, .unset, .unset, .unset, .unset] [])) t → Steps p.tables e below (s₁.setTop (entryFrame m #[(.ref r0), (.ref r1), (.ref r2), (.ref r3), (.int 0), (.int 4)] 11)) t := fun t k => castTop (ef1_0_4 m r0 r1 r2 r3) k
  obtain ⟨T101, X101, e101, st101⟩ := initO X0 hx hZ hown (own_w hw 12 rfl) (own_w hw 13 rfl) (own_w hw 14 rfl) e0 (g := (mkF m 1 #[.val (.ref r0), .val (.ref r1), .val (.ref r2), .val (.ref r3), .val (.int 0), .val (.int 4), .unset, .unset, .unset, .unset, .unset] [(.ref r0)])) rfl (by rw [hml]; rfl) rfl (hb hby d1_1) (by decide) (W := 0) (by show 2 * 0 + _ ≤ _; exact Nat.le_of_eq rfl) (by decide)
  obtain ⟨T102, h102, X102, e102, W102, st102⟩ := putF X101 hx hZ hown (host := "") (Or.inl (own_w hw 15 rfl)) Via.refl e101 F_docs_r0 E_r0 (Or.inr ⟨(own_w hw 16 rfl), rfl, hnm⟩) (own_w hw 7 rfl) (ty := (.array .int)) (by decide) rfl rfl (g := (mkF m 6 #[.val (.ref r0), .val (.ref r1), .val (.ref r2), .val (.ref r3), .val (.int 0), .val (.int 4), .unset, .unset, .unset, .unset, .unset] [(.ref r1), (.ref r0)])) rfl rfl (hb hby d1_6)
  have Fw102 := F_docs_r0.same W102
  have N102 := Fr.snoc X102 N0 g_r0
  have ZZ103 : n0 ≤ h102.size := Nat.le_trans Z0 (Nat.le_of_eq W102.size.symm)
  have KK104 : Keep h0 h102 [r0] := (Keep.refl h0 [r0]).wr W102 (Or.inl (List.mem_of_getElem? (i := 0) rfl))
  have Fc105 := (F_tfs_r0.other W102 (Or.inr (sn0 hw)))
  obtain ⟨T106, h106, X106, e106, W106, st106⟩ := putF X102 hx hZ hown (host := "") (Or.inl (own_w hw 17 rfl)) Via.refl e102 Fc105 (E_r0.wr W102) (Or.inr ⟨(own_w hw 18 rfl), rfl, hnm⟩) (own_w hw 7 rfl) (ty := (.array .double)) (by decide) rfl rfl (g := (mkF m 11 #[.val (.ref r0), .val (.ref r1), .val (.ref r2), .val (.ref r3), .val (.int 0), .val (.int 4), .unset, .unset, .unset, .unset, .unset] [(.ref r2), (.ref r0)])) rfl rfl (hb hby d1_11)
  have Fw106 := Fc105.same W106
  have N106 := Fr.snoc X106 N102 g_r0
  have ZZ107 : n0 ≤ h106.size := Nat.le_trans ZZ103 (Nat.le_of_eq W106.size.symm)
  have KK108 : Keep h0 h106 [r0] := KK104.wr W106 (Or.inl (List.mem_of_getElem? (i := 0) rfl))
  have Fc109 := ((F_occurs_r0.other W102 (Or.inr (sn1 hw))).other W106 (Or.inr (sn2 hw)))
  obtain ⟨T110, h110, X110, e110, W110, st110⟩ := putF X106 hx hZ hown (host := "") (Or.inl (own_w hw 19 rfl)) Via.refl e106 Fc109 ((E_r0.wr W102).wr W106) (Or.inr ⟨(own_w hw 20 rfl), rfl, hnm⟩) (own_w hw 7 rfl) (ty := (.array .int)) (by decide) rfl rfl (g := (mkF m 16 #[.val (.ref r0), .val (.ref r1), .val (.ref r2), .val (.ref r3), .val (.int 0), .val (.int 4), .unset, .unset, .unset, .unset, .unset] [(.ref r3), (.ref r0)])) rfl rfl (hb hby d1_16)
  have Fw110 := Fc109.same W110
  have N110 := Fr.snoc X110 N106 g_r0
  have ZZ111 : n0 ≤ h110.size := Nat.le_trans ZZ107 (Nat.le_of_eq W110.size.symm)
  have KK112 : Keep h0 h110 [r0] := KK108.wr W110 (Or.inl (List.mem_of_getElem? (i := 0) rfl))
  have Fc113 := (((F_from_r0.other W102 (Or.inr (sn3 hw))).other W106 (Or.inr (sn4 hw))).other W110 (Or.inr (sn5 hw)))
  have Fc114 := (((E_r0.wr W102).wr W106).wr W110)
  obtain ⟨T115, h115, X115, e115, W115, st115⟩ := putF X110 hx hZ hown (host := "") (Or.inl (own_w hw 21 rfl)) Via.refl e110 Fc113 Fc114 (Or.inr ⟨(own_w hw 22 rfl), rfl, hnm⟩) (own_w hw 7 rfl) (ty := .int) (by decide) rfl rfl (g := (mkF m 22 #[.val (.ref r0), .val (.ref r1), .val (.ref r2), .val (.ref r3), .val (.int 0), .val (.int 4), .unset, .unset, .unset, .unset, .unset] [(.int 0), (.ref r0)])) rfl rfl (hb hby d1_22)
  have Fw115 := Fc113.same W115
  have N115 := Fr.snoc X115 N110 g_r0
  have ZZ116 : n0 ≤ h115.size := Nat.le_trans ZZ111 (Nat.le_of_eq W115.size.symm)
  have KK117 : Keep h0 h115 [r0] := KK112.wr W115 (Or.inl (List.mem_of_getElem? (i := 0) rfl))
  have Fc118 := ((((F_to_r0.other W102 (Or.inr (sn6 hw))).other W106 (Or.inr (sn7 hw))).other W110 (Or.inr (sn8 hw))).other W115 (Or.inr (sn9 hw)))
  obtain ⟨T119, h119, X119, e119, W119, st119⟩ := putF X115 hx hZ hown (host := "") (Or.inl (own_w hw 23 rfl)) Via.refl e115 Fc118 (Fc114.wr W115) (Or.inr ⟨(own_w hw 24 rfl), rfl, hnm⟩) (own_w hw 7 rfl) (ty := .int) (by decide) rfl rfl (g := (mkF m 28 #[.val (.ref r0), .val (.ref r1), .val (.ref r2), .val (.ref r3), .val (.int 0), .val (.int 4), .unset, .unset, .unset, .unset, .unset] [(.int 4), (.ref r0)])) rfl rfl (hb hby d1_28)
  have Fw119 := Fc118.same W119
  have N119 := Fr.snoc X119 N115 g_r0
  have ZZ120 : n0 ≤ h119.size := Nat.le_trans ZZ116 (Nat.le_of_eq W119.size.symm)
  have KK121 : Keep h0 h119 [r0] := KK117.wr W119 (Or.inl (List.mem_of_getElem? (i := 0) rfl))
  have Fc122 := (((((V_r2.other W102 ne_r2_r0).other W106 ne_r2_r0).other W110 ne_r2_r0).other W115 ne_r2_r0).other W119 ne_r2_r0)
  obtain ⟨cl123, Ar123, qk123, Sz123, Nz123, Hh123, Gg123⟩ := id Fc122
  have hin123 : ¬ ((0 : Int32) < 0 ∨ cl123.slots.size ≤ ((0 : Int32)).toNatClampNeg) := inb_of Sz123 ⟨by decide, by decide⟩
  have hat123 : cl123.slots[((0 : Int32)).toNatClampNeg]? = some (.double 4607182418800017408) := Has.at Hh123 hin123 rfl
  have Fc124 := (((((V_r3.other W102 ne_r3_r0).other W106 ne_r3_r0).other W110 ne_r3_r0).other W115 ne_r3_r0).other W119 ne_r3_r0)
  obtain ⟨cl125, Ar125, qk125, Sz125, Nz125, Hh125, Gg125⟩ := id Fc124
  have hin125 : ¬ ((0 : Int32) < 0 ∨ cl125.slots.size ≤ ((0 : Int32)).toNatClampNeg) := inb_of Sz125 ⟨by decide, by decide⟩
  have hat125 : cl125.slots[((0 : Int32)).toNatClampNeg]? = some (.int 1) := Has.at Hh125 hin125 rfl
  obtain ⟨cl126, Ar126, qk126, Sz126, Nz126, Hh126, Gg126⟩ := id Fc122
  have hin126 : ¬ ((0 : Int32) < 0 ∨ cl126.slots.size ≤ ((0 : Int32)).toNatClampNeg) := inb_of Sz126 ⟨by decide, by decide⟩
  have hat126 : cl126.slots[((0 : Int32)).toNatClampNeg]? = some (.double 4607182418800017408) := Has.at Hh126 hin126 rfl
  obtain ⟨cl127, Ar127, qk127, Sz127, Nz127, Hh127, Gg127⟩ := id Fc122
  have hin127 : ¬ ((1 : Int32) < 0 ∨ cl127.slots.size ≤ ((1 : Int32)).toNatClampNeg) := inb_of Sz127 ⟨by decide, by decide⟩
  have hat127 : cl127.slots[((1 : Int32)).toNatClampNeg]? = some (.double 4611686018427387904) := Has.at Hh127 hin127 rfl
  obtain ⟨cl128, Ar128, qk128, Sz128, Nz128, Hh128, Gg128⟩ := id Fc124
  have hin128 : ¬ ((1 : Int32) < 0 ∨ cl128.slots.size ≤ ((1 : Int32)).toNatClampNeg) := inb_of Sz128 ⟨by decide, by decide⟩
  have hat128 : cl128.slots[((1 : Int32)).toNatClampNeg]? = some (.int 1) := Has.at Hh128 hin128 rfl
  obtain ⟨cl129, Ar129, qk129, Sz129, Nz129, Hh129, Gg129⟩ := id Fc122
  have hin129 : ¬ ((1 : Int32) < 0 ∨ cl129.slots.size ≤ ((1 : Int32)).toNatClampNeg) := inb_of Sz129 ⟨by decide, by decide⟩
  have hat129 : cl129.slots[((1 : Int32)).toNatClampNeg]? = some (.double 4611686018427387904) := Has.at Hh129 hin129 rfl
  obtain ⟨cl130, Ar130, qk130, Sz130, Nz130, Hh130, Gg130⟩ := id Fc122
  have hin130 : ¬ ((2 : Int32) < 0 ∨ cl130.slots.size ≤ ((2 : Int32)).toNatClampNeg) := inb_of Sz130 ⟨by decide, by decide⟩
  have hat130 : cl130.slots[((2 : Int32)).toNatClampNeg]? = some (.double 4613937818241073152) := Has.at Hh130 hin130 rfl
  obtain ⟨cl131, Ar131, qk131, Sz131, Nz131, Hh131, Gg131⟩ := id Fc124
  have hin131 : ¬ ((2 : Int32) < 0 ∨ cl131.slots.size ≤ ((2 : Int32)).toNatClampNeg) := inb_of Sz131 ⟨by decide, by decide⟩
  have hat131 : cl131.slots[((2 : Int32)).toNatClampNeg]? = some (.int 1) := Has.at Hh131 hin131 rfl
  obtain ⟨cl132, Ar132, qk132, Sz132, Nz132, Hh132, Gg132⟩ := id Fc122
  have hin132 : ¬ ((2 : Int32) < 0 ∨ cl132.slots.size ≤ ((2 : Int32)).toNatClampNeg) := inb_of Sz132 ⟨by decide, by decide⟩
  have hat132 : cl132.slots[((2 : Int32)).toNatClampNeg]? = some (.double 4613937818241073152) := Has.at Hh132 hin132 rfl
  obtain ⟨cl133, Ar133, qk133, Sz133, Nz133, Hh133, Gg133⟩ := id Fc122
  have hin133 : ¬ ((3 : Int32) < 0 ∨ cl133.slots.size ≤ ((3 : Int32)).toNatClampNeg) := inb_of Sz133 ⟨by decide, by decide⟩
  have hat133 : cl133.slots[((3 : Int32)).toNatClampNeg]? = some (.double 4616189618054758400) := Has.at Hh133 hin133 rfl
  obtain ⟨cl134, Ar134, qk134, Sz134, Nz134, Hh134, Gg134⟩ := id Fc124
  have hin134 : ¬ ((3 : Int32) < 0 ∨ cl134.slots.size ≤ ((3 : Int32)).toNatClampNeg) := inb_of Sz134 ⟨by decide, by decide⟩
  have hat134 : cl134.slots[((3 : Int32)).toNatClampNeg]? = some (.int 1) := Has.at Hh134 hin134 rfl
  obtain ⟨cl135, Ar135, qk135, Sz135, Nz135, Hh135, Gg135⟩ := id Fc122
  have hin135 : ¬ ((3 : Int32) < 0 ∨ cl135.slots.size ≤ ((3 : Int32)).toNatClampNeg) := inb_of Sz135 ⟨by decide, by decide⟩
  have hat135 : cl135.slots[((3 : Int32)).toNatClampNeg]? = some (.double 4616189618054758400) := Has.at Hh135 hin135 rfl
  have Fc136 := (((((F_documentFrequency_r0.other W102 (Or.inr (sn10 hw))).other W106 (Or.inr (sn11 hw))).other W110 (Or.inr (sn12 hw))).other W115 (Or.inr (sn13 hw))).other W119 (Or.inr (sn14 hw)))
  have Fc137 := ((Fc114.wr W115).wr W119)
  obtain ⟨T138, h138, X138, e138, W138, st138⟩ := putF X119 hx hZ hown (host := "") (Or.inl (own_w hw 25 rfl)) Via.refl e119 Fc136 Fc137 (Or.inr ⟨(own_w hw 26 rfl), rfl, hnm⟩) (own_w hw 7 rfl) (ty := .double) (by decide) rfl rfl (g := (mkF m 81 #[.val (.ref r0), .val (.ref r1), .val (.ref r2), .val (.ref r3), .val (.int 0), .val (.int 4), .val (.double 4621819117588971520), .second, .val (.double 4621819117588971520), .second, .val (.int 4)] [(.double 4621819117588971520), (.ref r0)])) rfl rfl (hb hby d1_81)
  have Fw138 := Fc136.same W138
  have N138 := Fr.snoc X138 N119 g_r0
  have ZZ139 : n0 ≤ h138.size := Nat.le_trans ZZ120 (Nat.le_of_eq W138.size.symm)
  have KK140 : Keep h0 h138 [r0] := KK121.wr W138 (Or.inl (List.mem_of_getElem? (i := 0) rfl))
  have Fc141 := ((((((F_collectionFrequency_r0.other W102 (Or.inr (sn15 hw))).other W106 (Or.inr (sn16 hw))).other W110 (Or.inr (sn17 hw))).other W115 (Or.inr (sn18 hw))).other W119 (Or.inr (sn19 hw))).other W138 (Or.inr (sn20 hw)))
  obtain ⟨T142, h142, X142, e142, W142, st142⟩ := putF X138 hx hZ hown (host := "") (Or.inl (own_w hw 27 rfl)) Via.refl e138 Fc141 (Fc137.wr W138) (Or.inr ⟨(own_w hw 28 rfl), rfl, hnm⟩) (own_w hw 7 rfl) (ty := .double) (by decide) rfl rfl (g := (mkF m 87 #[.val (.ref r0), .val (.ref r1), .val (.ref r2), .val (.ref r3), .val (.int 0), .val (.int 4), .val (.double 4621819117588971520), .second, .val (.double 4621819117588971520), .second, .val (.int 4)] [(.double 4621819117588971520), (.ref r0)])) rfl rfl (hb hby d1_87)
  have Fw142 := Fc141.same W142
  have N142 := Fr.snoc X142 N138 g_r0
  have ZZ143 : n0 ≤ h142.size := Nat.le_trans ZZ139 (Nat.le_of_eq W142.size.symm)
  have KK144 : Keep h0 h142 [r0] := KK140.wr W142 (Or.inl (List.mem_of_getElem? (i := 0) rfl))
  obtain ⟨fs, hr, hrun, hended, hW, hsame⟩ := X142.leave (v := none) (fun _ => rfl)
  refine ⟨_, _, pre0 _ ?_, hrun, hended, _, _, rfl, ?_, ⟨_, rfl⟩, hW, hsame.mono (by decide) (by decide)⟩
  · show own_S p e below s₁ m 0 #[oR r0, oR r1, oR r2, oR r3, oI 0, oI 4, oU, oU, oU, oU, oU] [] _
    refine XS.aloadN X0.here hx rfl (hb hby d1_0) rfl rfl ?_
    show own_S p e below s₁ m 1 #[oR r0, oR r1, oR r2, oR r3, oI 0, oI 4, oU, oU, oU, oU, oU] [(.ref r0)] _
    refine st101 _ ?_
    show own_S p e below T101 m 4 #[oR r0, oR r1, oR r2, oR r3, oI 0, oI 4, oU, oU, oU, oU, oU] [] _
    refine XS.aloadN X101.here hx rfl (hb hby d1_4) rfl rfl ?_
    show own_S p e below T101 m 5 #[oR r0, oR r1, oR r2, oR r3, oI 0, oI 4, oU, oU, oU, oU, oU] [(.ref r0)] _
    refine XS.aloadN X101.here hx rfl (hb hby d1_5) rfl rfl ?_
    show own_S p e below T101 m 6 #[oR r0, oR r1, oR r2, oR r3, oI 0, oI 4, oU, oU, oU, oU, oU] [(.ref r1), (.ref r0)] _
    refine st102 _ ?_
    show own_S p e below T102 m 9 #[oR r0, oR r1, oR r2, oR r3, oI 0, oI 4, oU, oU, oU, oU, oU] [] _
    refine XS.aloadN X102.here hx rfl (hb hby d1_9) rfl rfl ?_
    show own_S p e below T102 m 10 #[oR r0, oR r1, oR r2, oR r3, oI 0, oI 4, oU, oU, oU, oU, oU] [(.ref r0)] _
    refine XS.aloadN X102.here hx rfl (hb hby d1_10) rfl rfl ?_
    show own_S p e below T102 m 11 #[oR r0, oR r1, oR r2, oR r3, oI 0, oI 4, oU, oU, oU, oU, oU] [(.ref r2), (.ref r0)] _
    refine st106 _ ?_
    show own_S p e below T106 m 14 #[oR r0, oR r1, oR r2, oR r3, oI 0, oI 4, oU, oU, oU, oU, oU] [] _
    refine XS.aloadN X106.here hx rfl (hb hby d1_14) rfl rfl ?_
    show own_S p e below T106 m 15 #[oR r0, oR r1, oR r2, oR r3, oI 0, oI 4, oU, oU, oU, oU, oU] [(.ref r0)] _
    refine XS.aloadN X106.here hx rfl (hb hby d1_15) rfl rfl ?_
    show own_S p e below T106 m 16 #[oR r0, oR r1, oR r2, oR r3, oI 0, oI 4, oU, oU, oU, oU, oU] [(.ref r3), (.ref r0)] _
    refine st110 _ ?_
    show own_S p e below T110 m 19 #[oR r0, oR r1, oR r2, oR r3, oI 0, oI 4, oU, oU, oU, oU, oU] [] _
    refine XS.aloadN X110.here hx rfl (hb hby d1_19) rfl rfl ?_
    show own_S p e below T110 m 20 #[oR r0, oR r1, oR r2, oR r3, oI 0, oI 4, oU, oU, oU, oU, oU] [(.ref r0)] _
    refine XS.iload X110.here hx rfl (hb hby d1_20) rfl ?_
    show own_S p e below T110 m 22 #[oR r0, oR r1, oR r2, oR r3, oI 0, oI 4, oU, oU, oU, oU, oU] [(.int 0), (.ref r0)] _
    refine st115 _ ?_
    show own_S p e below T115 m 25 #[oR r0, oR r1, oR r2, oR r3, oI 0, oI 4, oU, oU, oU, oU, oU] [] _
    refine XS.aloadN X115.here hx rfl (hb hby d1_25) rfl rfl ?_
    show own_S p e below T115 m 26 #[oR r0, oR r1, oR r2, oR r3, oI 0, oI 4, oU, oU, oU, oU, oU] [(.ref r0)] _
    refine XS.iload X115.here hx rfl (hb hby d1_26) rfl ?_
    show own_S p e below T115 m 28 #[oR r0, oR r1, oR r2, oR r3, oI 0, oI 4, oU, oU, oU, oU, oU] [(.int 4), (.ref r0)] _
    refine st119 _ ?_
    show own_S p e below T119 m 31 #[oR r0, oR r1, oR r2, oR r3, oI 0, oI 4, oU, oU, oU, oU, oU] [] _
    refine XS.dconst0 X119.here hx rfl (v := 0) (hb hby d1_31) rfl ?_
    show own_S p e below T119 m 32 #[oR r0, oR r1, oR r2, oR r3, oI 0, oI 4, oU, oU, oU, oU, oU] [(.double 0)] _
    refine XS.dstore X119.here hx rfl (hb hby d1_32) rfl (l' := #[.val (.ref r0), .val (.ref r1), .val (.ref r2), .val (.ref r3), .val (.int 0), .val (.int 4), .val (.double 0), .second, .unset, .unset, .unset]) rfl ?_
    show own_S p e below T119 m 34 #[oR r0, oR r1, oR r2, oR r3, oI 0, oI 4, oD 0, oV, oU, oU, oU] [] _
    refine XS.dconst0 X119.here hx rfl (v := 0) (hb hby d1_34) rfl ?_
    show own_S p e below T119 m 35 #[oR r0, oR r1, oR r2, oR r3, oI 0, oI 4, oD 0, oV, oU, oU, oU] [(.double 0)] _
    refine XS.dstore X119.here hx rfl (hb hby d1_35) rfl (l' := #[.val (.ref r0), .val (.ref r1), .val (.ref r2), .val (.ref r3), .val (.int 0), .val (.int 4), .val (.double 0), .second, .val (.double 0), .second, .unset]) rfl ?_
    show own_S p e below T119 m 37 #[oR r0, oR r1, oR r2, oR r3, oI 0, oI 4, oD 0, oV, oD 0, oV, oU] [] _
    refine XS.iload X119.here hx rfl (hb hby d1_37) rfl ?_
    show own_S p e below T119 m 39 #[oR r0, oR r1, oR r2, oR r3, oI 0, oI 4, oD 0, oV, oD 0, oV, oU] [(.int 0)] _
    refine XS.istore X119.here hx rfl (hb hby d1_39) rfl (l' := #[.val (.ref r0), .val (.ref r1), .val (.ref r2), .val (.ref r3), .val (.int 0), .val (.int 4), .val (.double 0), .second, .val (.double 0), .second, .val (.int 0)]) rfl ?_
    show own_S p e below T119 m 41 #[oR r0, oR r1, oR r2, oR r3, oI 0, oI 4, oD 0, oV, oD 0, oV, oI 0] [] _
    refine XS.iload X119.here hx rfl (hb hby d1_41) rfl ?_
    show own_S p e below T119 m 43 #[oR r0, oR r1, oR r2, oR r3, oI 0, oI 4, oD 0, oV, oD 0, oV, oI 0] [(.int 0)] _
    refine XS.iload X119.here hx rfl (hb hby d1_43) rfl ?_
    show own_S p e below T119 m 45 #[oR r0, oR r1, oR r2, oR r3, oI 0, oI 4, oD 0, oV, oD 0, oV, oI 0] [(.int 4), (.int 0)] _
    refine XS.icmpNo X119.here hx rfl (hb hby d1_45) rfl (tlt (by decide : (0 : Int32) < (4 : Int32))).2.1 ?_
    show own_S p e below T119 m 48 #[oR r0, oR r1, oR r2, oR r3, oI 0, oI 4, oD 0, oV, oD 0, oV, oI 0] [] _
    refine XS.dload X119.here hx rfl (hb hby d1_48) rfl ?_
    show own_S p e below T119 m 50 #[oR r0, oR r1, oR r2, oR r3, oI 0, oI 4, oD 0, oV, oD 0, oV, oI 0] [(.double 0)] _
    refine XS.aloadN X119.here hx rfl (hb hby d1_50) rfl rfl ?_
    show own_S p e below T119 m 51 #[oR r0, oR r1, oR r2, oR r3, oI 0, oI 4, oD 0, oV, oD 0, oV, oI 0] [(.ref r2), (.double 0)] _
    refine XS.iload X119.here hx rfl (hb hby d1_51) rfl ?_
    show own_S p e below T119 m 53 #[oR r0, oR r1, oR r2, oR r3, oI 0, oI 4, oD 0, oV, oD 0, oV, oI 0] [(.int 0), (.ref r2), (.double 0)] _
    refine X119.daload hx (j := (0 : Int32)) (v := (.double 4607182418800017408)) (by rw [e119]; exact Ar123.1) (State.isArrayOf_alike hZ.alike Ar123.2.1) Ar123.2.2 hin123 hat123 (g := (mkF m 53 #[.val (.ref r0), .val (.ref r1), .val (.ref r2), .val (.ref r3), .val (.int 0), .val (.int 4), .val (.double 0), .second, .val (.double 0), .second, .val (.int 0)] [(.int 0), (.ref r2), (.double 0)])) rfl rfl (hb hby d1_53) _ ?_
    show own_S p e below T119 m 54 #[oR r0, oR r1, oR r2, oR r3, oI 0, oI 4, oD 0, oV, oD 0, oV, oI 0] [(.double 4607182418800017408), (.double 0)] _
    refine XS.aloadN X119.here hx rfl (hb hby d1_54) rfl rfl ?_
    show own_S p e below T119 m 55 #[oR r0, oR r1, oR r2, oR r3, oI 0, oI 4, oD 0, oV, oD 0, oV, oI 0] [(.ref r3), (.double 4607182418800017408), (.double 0)] _
    refine XS.iload X119.here hx rfl (hb hby d1_55) rfl ?_
    show own_S p e below T119 m 57 #[oR r0, oR r1, oR r2, oR r3, oI 0, oI 4, oD 0, oV, oD 0, oV, oI 0] [(.int 0), (.ref r3), (.double 4607182418800017408), (.double 0)] _
    refine X119.iaload hx (j := (0 : Int32)) (v := (.int 1)) (by rw [e119]; exact Ar125.1) (State.isArrayOf_alike hZ.alike Ar125.2.1) Ar125.2.2 hin125 hat125 (g := (mkF m 57 #[.val (.ref r0), .val (.ref r1), .val (.ref r2), .val (.ref r3), .val (.int 0), .val (.int 4), .val (.double 0), .second, .val (.double 0), .second, .val (.int 0)] [(.int 0), (.ref r3), (.double 4607182418800017408), (.double 0)])) rfl rfl (hb hby d1_57) _ ?_
    show own_S p e below T119 m 58 #[oR r0, oR r1, oR r2, oR r3, oI 0, oI 4, oD 0, oV, oD 0, oV, oI 0] [(.int 1), (.double 4607182418800017408), (.double 0)] _
    refine XS.i2dS X119.here hx rfl (v := (4607182418800017408 : UInt64)) (hb hby d1_58) rfl (by decide +kernel) ?_
    show own_S p e below T119 m 59 #[oR r0, oR r1, oR r2, oR r3, oI 0, oI 4, oD 0, oV, oD 0, oV, oI 0] [(.double 4607182418800017408), (.double 4607182418800017408), (.double 0)] _
    refine XS.ddivS X119.here hx rfl (v := (4607182418800017408 : UInt64)) (hb hby d1_59) rfl (own_nnl (by decide +kernel : FP.ddiv (4607182418800017408 : UInt64) (4607182418800017408 : UInt64) = (4607182418800017408 : UInt64)) (by unfold NoNaN64; decide)) (by decide +kernel) ?_
    show own_S p e below T119 m 60 #[oR r0, oR r1, oR r2, oR r3, oI 0, oI 4, oD 0, oV, oD 0, oV, oI 0] [(.double 4607182418800017408), (.double 0)] _
    refine XS.daddS X119.here hx rfl (v := (4607182418800017408 : UInt64)) (hb hby d1_60) rfl (own_nnl (by decide +kernel : FP.dadd (0 : UInt64) (4607182418800017408 : UInt64) = (4607182418800017408 : UInt64)) (by unfold NoNaN64; decide)) (by decide +kernel) ?_
    show own_S p e below T119 m 61 #[oR r0, oR r1, oR r2, oR r3, oI 0, oI 4, oD 0, oV, oD 0, oV, oI 0] [(.double 4607182418800017408)] _
    refine XS.dstore X119.here hx rfl (hb hby d1_61) rfl (l' := #[.val (.ref r0), .val (.ref r1), .val (.ref r2), .val (.ref r3), .val (.int 0), .val (.int 4), .val (.double 4607182418800017408), .second, .val (.double 0), .second, .val (.int 0)]) rfl ?_
    show own_S p e below T119 m 63 #[oR r0, oR r1, oR r2, oR r3, oI 0, oI 4, oD 4607182418800017408, oV, oD 0, oV, oI 0] [] _
    refine XS.dload X119.here hx rfl (hb hby d1_63) rfl ?_
    show own_S p e below T119 m 65 #[oR r0, oR r1, oR r2, oR r3, oI 0, oI 4, oD 4607182418800017408, oV, oD 0, oV, oI 0] [(.double 0)] _
    refine XS.aloadN X119.here hx rfl (hb hby d1_65) rfl rfl ?_
    show own_S p e below T119 m 66 #[oR r0, oR r1, oR r2, oR r3, oI 0, oI 4, oD 4607182418800017408, oV, oD 0, oV, oI 0] [(.ref r2), (.double 0)] _
    refine XS.iload X119.here hx rfl (hb hby d1_66) rfl ?_
    show own_S p e below T119 m 68 #[oR r0, oR r1, oR r2, oR r3, oI 0, oI 4, oD 4607182418800017408, oV, oD 0, oV, oI 0] [(.int 0), (.ref r2), (.double 0)] _
    refine X119.daload hx (j := (0 : Int32)) (v := (.double 4607182418800017408)) (by rw [e119]; exact Ar126.1) (State.isArrayOf_alike hZ.alike Ar126.2.1) Ar126.2.2 hin126 hat126 (g := (mkF m 68 #[.val (.ref r0), .val (.ref r1), .val (.ref r2), .val (.ref r3), .val (.int 0), .val (.int 4), .val (.double 4607182418800017408), .second, .val (.double 0), .second, .val (.int 0)] [(.int 0), (.ref r2), (.double 0)])) rfl rfl (hb hby d1_68) _ ?_
    show own_S p e below T119 m 69 #[oR r0, oR r1, oR r2, oR r3, oI 0, oI 4, oD 4607182418800017408, oV, oD 0, oV, oI 0] [(.double 4607182418800017408), (.double 0)] _
    refine XS.daddS X119.here hx rfl (v := (4607182418800017408 : UInt64)) (hb hby d1_69) rfl (own_nnl (by decide +kernel : FP.dadd (0 : UInt64) (4607182418800017408 : UInt64) = (4607182418800017408 : UInt64)) (by unfold NoNaN64; decide)) (by decide +kernel) ?_
    show own_S p e below T119 m 70 #[oR r0, oR r1, oR r2, oR r3, oI 0, oI 4, oD 4607182418800017408, oV, oD 0, oV, oI 0] [(.double 4607182418800017408)] _
    refine XS.dstore X119.here hx rfl (hb hby d1_70) rfl (l' := #[.val (.ref r0), .val (.ref r1), .val (.ref r2), .val (.ref r3), .val (.int 0), .val (.int 4), .val (.double 4607182418800017408), .second, .val (.double 4607182418800017408), .second, .val (.int 0)]) rfl ?_
    show own_S p e below T119 m 72 #[oR r0, oR r1, oR r2, oR r3, oI 0, oI 4, oD 4607182418800017408, oV, oD 4607182418800017408, oV, oI 0] [] _
    refine XS.iinc X119.here hx rfl (hb hby d1_72) rfl (l' := #[.val (.ref r0), .val (.ref r1), .val (.ref r2), .val (.ref r3), .val (.int 0), .val (.int 4), .val (.double 4607182418800017408), .second, .val (.double 4607182418800017408), .second, .val (.int 1)]) rfl ?_
    show own_S p e below T119 m 75 #[oR r0, oR r1, oR r2, oR r3, oI 0, oI 4, oD 4607182418800017408, oV, oD 4607182418800017408, oV, oI 1] [] _
    refine XS.goto X119.here hx rfl (pc0 := 75) (pc' := 41) rfl (hb hby d1_75) (by decide) (by decide) ?_
    show own_S p e below T119 m 41 #[oR r0, oR r1, oR r2, oR r3, oI 0, oI 4, oD 4607182418800017408, oV, oD 4607182418800017408, oV, oI 1] [] _
    refine XS.iload X119.here hx rfl (hb hby d1_41) rfl ?_
    show own_S p e below T119 m 43 #[oR r0, oR r1, oR r2, oR r3, oI 0, oI 4, oD 4607182418800017408, oV, oD 4607182418800017408, oV, oI 1] [(.int 1)] _
    refine XS.iload X119.here hx rfl (hb hby d1_43) rfl ?_
    show own_S p e below T119 m 45 #[oR r0, oR r1, oR r2, oR r3, oI 0, oI 4, oD 4607182418800017408, oV, oD 4607182418800017408, oV, oI 1] [(.int 4), (.int 1)] _
    refine XS.icmpNo X119.here hx rfl (hb hby d1_45) rfl (tlt (by decide : (1 : Int32) < (4 : Int32))).2.1 ?_
    show own_S p e below T119 m 48 #[oR r0, oR r1, oR r2, oR r3, oI 0, oI 4, oD 4607182418800017408, oV, oD 4607182418800017408, oV, oI 1] [] _
    refine XS.dload X119.here hx rfl (hb hby d1_48) rfl ?_
    show own_S p e below T119 m 50 #[oR r0, oR r1, oR r2, oR r3, oI 0, oI 4, oD 4607182418800017408, oV, oD 4607182418800017408, oV, oI 1] [(.double 4607182418800017408)] _
    refine XS.aloadN X119.here hx rfl (hb hby d1_50) rfl rfl ?_
    show own_S p e below T119 m 51 #[oR r0, oR r1, oR r2, oR r3, oI 0, oI 4, oD 4607182418800017408, oV, oD 4607182418800017408, oV, oI 1] [(.ref r2), (.double 4607182418800017408)] _
    refine XS.iload X119.here hx rfl (hb hby d1_51) rfl ?_
    show own_S p e below T119 m 53 #[oR r0, oR r1, oR r2, oR r3, oI 0, oI 4, oD 4607182418800017408, oV, oD 4607182418800017408, oV, oI 1] [(.int 1), (.ref r2), (.double 4607182418800017408)] _
    refine X119.daload hx (j := (1 : Int32)) (v := (.double 4611686018427387904)) (by rw [e119]; exact Ar127.1) (State.isArrayOf_alike hZ.alike Ar127.2.1) Ar127.2.2 hin127 hat127 (g := (mkF m 53 #[.val (.ref r0), .val (.ref r1), .val (.ref r2), .val (.ref r3), .val (.int 0), .val (.int 4), .val (.double 4607182418800017408), .second, .val (.double 4607182418800017408), .second, .val (.int 1)] [(.int 1), (.ref r2), (.double 4607182418800017408)])) rfl rfl (hb hby d1_53) _ ?_
    show own_S p e below T119 m 54 #[oR r0, oR r1, oR r2, oR r3, oI 0, oI 4, oD 4607182418800017408, oV, oD 4607182418800017408, oV, oI 1] [(.double 4611686018427387904), (.double 4607182418800017408)] _
    refine XS.aloadN X119.here hx rfl (hb hby d1_54) rfl rfl ?_
    show own_S p e below T119 m 55 #[oR r0, oR r1, oR r2, oR r3, oI 0, oI 4, oD 4607182418800017408, oV, oD 4607182418800017408, oV, oI 1] [(.ref r3), (.double 4611686018427387904), (.double 4607182418800017408)] _
    refine XS.iload X119.here hx rfl (hb hby d1_55) rfl ?_
    show own_S p e below T119 m 57 #[oR r0, oR r1, oR r2, oR r3, oI 0, oI 4, oD 4607182418800017408, oV, oD 4607182418800017408, oV, oI 1] [(.int 1), (.ref r3), (.double 4611686018427387904), (.double 4607182418800017408)] _
    refine X119.iaload hx (j := (1 : Int32)) (v := (.int 1)) (by rw [e119]; exact Ar128.1) (State.isArrayOf_alike hZ.alike Ar128.2.1) Ar128.2.2 hin128 hat128 (g := (mkF m 57 #[.val (.ref r0), .val (.ref r1), .val (.ref r2), .val (.ref r3), .val (.int 0), .val (.int 4), .val (.double 4607182418800017408), .second, .val (.double 4607182418800017408), .second, .val (.int 1)] [(.int 1), (.ref r3), (.double 4611686018427387904), (.double 4607182418800017408)])) rfl rfl (hb hby d1_57) _ ?_
    show own_S p e below T119 m 58 #[oR r0, oR r1, oR r2, oR r3, oI 0, oI 4, oD 4607182418800017408, oV, oD 4607182418800017408, oV, oI 1] [(.int 1), (.double 4611686018427387904), (.double 4607182418800017408)] _
    refine XS.i2dS X119.here hx rfl (v := (4607182418800017408 : UInt64)) (hb hby d1_58) rfl (by decide +kernel) ?_
    show own_S p e below T119 m 59 #[oR r0, oR r1, oR r2, oR r3, oI 0, oI 4, oD 4607182418800017408, oV, oD 4607182418800017408, oV, oI 1] [(.double 4607182418800017408), (.double 4611686018427387904), (.double 4607182418800017408)] _
    refine XS.ddivS X119.here hx rfl (v := (4611686018427387904 : UInt64)) (hb hby d1_59) rfl (own_nnl (by decide +kernel : FP.ddiv (4611686018427387904 : UInt64) (4607182418800017408 : UInt64) = (4611686018427387904 : UInt64)) (by unfold NoNaN64; decide)) (by decide +kernel) ?_
    show own_S p e below T119 m 60 #[oR r0, oR r1, oR r2, oR r3, oI 0, oI 4, oD 4607182418800017408, oV, oD 4607182418800017408, oV, oI 1] [(.double 4611686018427387904), (.double 4607182418800017408)] _
    refine XS.daddS X119.here hx rfl (v := (4613937818241073152 : UInt64)) (hb hby d1_60) rfl (own_nnl (by decide +kernel : FP.dadd (4607182418800017408 : UInt64) (4611686018427387904 : UInt64) = (4613937818241073152 : UInt64)) (by unfold NoNaN64; decide)) (by decide +kernel) ?_
    show own_S p e below T119 m 61 #[oR r0, oR r1, oR r2, oR r3, oI 0, oI 4, oD 4607182418800017408, oV, oD 4607182418800017408, oV, oI 1] [(.double 4613937818241073152)] _
    refine XS.dstore X119.here hx rfl (hb hby d1_61) rfl (l' := #[.val (.ref r0), .val (.ref r1), .val (.ref r2), .val (.ref r3), .val (.int 0), .val (.int 4), .val (.double 4613937818241073152), .second, .val (.double 4607182418800017408), .second, .val (.int 1)]) rfl ?_
    show own_S p e below T119 m 63 #[oR r0, oR r1, oR r2, oR r3, oI 0, oI 4, oD 4613937818241073152, oV, oD 4607182418800017408, oV, oI 1] [] _
    refine XS.dload X119.here hx rfl (hb hby d1_63) rfl ?_
    show own_S p e below T119 m 65 #[oR r0, oR r1, oR r2, oR r3, oI 0, oI 4, oD 4613937818241073152, oV, oD 4607182418800017408, oV, oI 1] [(.double 4607182418800017408)] _
    refine XS.aloadN X119.here hx rfl (hb hby d1_65) rfl rfl ?_
    show own_S p e below T119 m 66 #[oR r0, oR r1, oR r2, oR r3, oI 0, oI 4, oD 4613937818241073152, oV, oD 4607182418800017408, oV, oI 1] [(.ref r2), (.double 4607182418800017408)] _
    refine XS.iload X119.here hx rfl (hb hby d1_66) rfl ?_
    show own_S p e below T119 m 68 #[oR r0, oR r1, oR r2, oR r3, oI 0, oI 4, oD 4613937818241073152, oV, oD 4607182418800017408, oV, oI 1] [(.int 1), (.ref r2), (.double 4607182418800017408)] _
    refine X119.daload hx (j := (1 : Int32)) (v := (.double 4611686018427387904)) (by rw [e119]; exact Ar129.1) (State.isArrayOf_alike hZ.alike Ar129.2.1) Ar129.2.2 hin129 hat129 (g := (mkF m 68 #[.val (.ref r0), .val (.ref r1), .val (.ref r2), .val (.ref r3), .val (.int 0), .val (.int 4), .val (.double 4613937818241073152), .second, .val (.double 4607182418800017408), .second, .val (.int 1)] [(.int 1), (.ref r2), (.double 4607182418800017408)])) rfl rfl (hb hby d1_68) _ ?_
    show own_S p e below T119 m 69 #[oR r0, oR r1, oR r2, oR r3, oI 0, oI 4, oD 4613937818241073152, oV, oD 4607182418800017408, oV, oI 1] [(.double 4611686018427387904), (.double 4607182418800017408)] _
    refine XS.daddS X119.here hx rfl (v := (4613937818241073152 : UInt64)) (hb hby d1_69) rfl (own_nnl (by decide +kernel : FP.dadd (4607182418800017408 : UInt64) (4611686018427387904 : UInt64) = (4613937818241073152 : UInt64)) (by unfold NoNaN64; decide)) (by decide +kernel) ?_
    show own_S p e below T119 m 70 #[oR r0, oR r1, oR r2, oR r3, oI 0, oI 4, oD 4613937818241073152, oV, oD 4607182418800017408, oV, oI 1] [(.double 4613937818241073152)] _
    refine XS.dstore X119.here hx rfl (hb hby d1_70) rfl (l' := #[.val (.ref r0), .val (.ref r1), .val (.ref r2), .val (.ref r3), .val (.int 0), .val (.int 4), .val (.double 4613937818241073152), .second, .val (.double 4613937818241073152), .second, .val (.int 1)]) rfl ?_
    show own_S p e below T119 m 72 #[oR r0, oR r1, oR r2, oR r3, oI 0, oI 4, oD 4613937818241073152, oV, oD 4613937818241073152, oV, oI 1] [] _
    refine XS.iinc X119.here hx rfl (hb hby d1_72) rfl (l' := #[.val (.ref r0), .val (.ref r1), .val (.ref r2), .val (.ref r3), .val (.int 0), .val (.int 4), .val (.double 4613937818241073152), .second, .val (.double 4613937818241073152), .second, .val (.int 2)]) rfl ?_
    show own_S p e below T119 m 75 #[oR r0, oR r1, oR r2, oR r3, oI 0, oI 4, oD 4613937818241073152, oV, oD 4613937818241073152, oV, oI 2] [] _
    refine XS.goto X119.here hx rfl (pc0 := 75) (pc' := 41) rfl (hb hby d1_75) (by decide) (by decide) ?_
    show own_S p e below T119 m 41 #[oR r0, oR r1, oR r2, oR r3, oI 0, oI 4, oD 4613937818241073152, oV, oD 4613937818241073152, oV, oI 2] [] _
    refine XS.iload X119.here hx rfl (hb hby d1_41) rfl ?_
    show own_S p e below T119 m 43 #[oR r0, oR r1, oR r2, oR r3, oI 0, oI 4, oD 4613937818241073152, oV, oD 4613937818241073152, oV, oI 2] [(.int 2)] _
    refine XS.iload X119.here hx rfl (hb hby d1_43) rfl ?_
    show own_S p e below T119 m 45 #[oR r0, oR r1, oR r2, oR r3, oI 0, oI 4, oD 4613937818241073152, oV, oD 4613937818241073152, oV, oI 2] [(.int 4), (.int 2)] _
    refine XS.icmpNo X119.here hx rfl (hb hby d1_45) rfl (tlt (by decide : (2 : Int32) < (4 : Int32))).2.1 ?_
    show own_S p e below T119 m 48 #[oR r0, oR r1, oR r2, oR r3, oI 0, oI 4, oD 4613937818241073152, oV, oD 4613937818241073152, oV, oI 2] [] _
    refine XS.dload X119.here hx rfl (hb hby d1_48) rfl ?_
    show own_S p e below T119 m 50 #[oR r0, oR r1, oR r2, oR r3, oI 0, oI 4, oD 4613937818241073152, oV, oD 4613937818241073152, oV, oI 2] [(.double 4613937818241073152)] _
    refine XS.aloadN X119.here hx rfl (hb hby d1_50) rfl rfl ?_
    show own_S p e below T119 m 51 #[oR r0, oR r1, oR r2, oR r3, oI 0, oI 4, oD 4613937818241073152, oV, oD 4613937818241073152, oV, oI 2] [(.ref r2), (.double 4613937818241073152)] _
    refine XS.iload X119.here hx rfl (hb hby d1_51) rfl ?_
    show own_S p e below T119 m 53 #[oR r0, oR r1, oR r2, oR r3, oI 0, oI 4, oD 4613937818241073152, oV, oD 4613937818241073152, oV, oI 2] [(.int 2), (.ref r2), (.double 4613937818241073152)] _
    refine X119.daload hx (j := (2 : Int32)) (v := (.double 4613937818241073152)) (by rw [e119]; exact Ar130.1) (State.isArrayOf_alike hZ.alike Ar130.2.1) Ar130.2.2 hin130 hat130 (g := (mkF m 53 #[.val (.ref r0), .val (.ref r1), .val (.ref r2), .val (.ref r3), .val (.int 0), .val (.int 4), .val (.double 4613937818241073152), .second, .val (.double 4613937818241073152), .second, .val (.int 2)] [(.int 2), (.ref r2), (.double 4613937818241073152)])) rfl rfl (hb hby d1_53) _ ?_
    show own_S p e below T119 m 54 #[oR r0, oR r1, oR r2, oR r3, oI 0, oI 4, oD 4613937818241073152, oV, oD 4613937818241073152, oV, oI 2] [(.double 4613937818241073152), (.double 4613937818241073152)] _
    refine XS.aloadN X119.here hx rfl (hb hby d1_54) rfl rfl ?_
    show own_S p e below T119 m 55 #[oR r0, oR r1, oR r2, oR r3, oI 0, oI 4, oD 4613937818241073152, oV, oD 4613937818241073152, oV, oI 2] [(.ref r3), (.double 4613937818241073152), (.double 4613937818241073152)] _
    refine XS.iload X119.here hx rfl (hb hby d1_55) rfl ?_
    show own_S p e below T119 m 57 #[oR r0, oR r1, oR r2, oR r3, oI 0, oI 4, oD 4613937818241073152, oV, oD 4613937818241073152, oV, oI 2] [(.int 2), (.ref r3), (.double 4613937818241073152), (.double 4613937818241073152)] _
    refine X119.iaload hx (j := (2 : Int32)) (v := (.int 1)) (by rw [e119]; exact Ar131.1) (State.isArrayOf_alike hZ.alike Ar131.2.1) Ar131.2.2 hin131 hat131 (g := (mkF m 57 #[.val (.ref r0), .val (.ref r1), .val (.ref r2), .val (.ref r3), .val (.int 0), .val (.int 4), .val (.double 4613937818241073152), .second, .val (.double 4613937818241073152), .second, .val (.int 2)] [(.int 2), (.ref r3), (.double 4613937818241073152), (.double 4613937818241073152)])) rfl rfl (hb hby d1_57) _ ?_
    show own_S p e below T119 m 58 #[oR r0, oR r1, oR r2, oR r3, oI 0, oI 4, oD 4613937818241073152, oV, oD 4613937818241073152, oV, oI 2] [(.int 1), (.double 4613937818241073152), (.double 4613937818241073152)] _
    refine XS.i2dS X119.here hx rfl (v := (4607182418800017408 : UInt64)) (hb hby d1_58) rfl (by decide +kernel) ?_
    show own_S p e below T119 m 59 #[oR r0, oR r1, oR r2, oR r3, oI 0, oI 4, oD 4613937818241073152, oV, oD 4613937818241073152, oV, oI 2] [(.double 4607182418800017408), (.double 4613937818241073152), (.double 4613937818241073152)] _
    refine XS.ddivS X119.here hx rfl (v := (4613937818241073152 : UInt64)) (hb hby d1_59) rfl (own_nnl (by decide +kernel : FP.ddiv (4613937818241073152 : UInt64) (4607182418800017408 : UInt64) = (4613937818241073152 : UInt64)) (by unfold NoNaN64; decide)) (by decide +kernel) ?_
    show own_S p e below T119 m 60 #[oR r0, oR r1, oR r2, oR r3, oI 0, oI 4, oD 4613937818241073152, oV, oD 4613937818241073152, oV, oI 2] [(.double 4613937818241073152), (.double 4613937818241073152)] _
    refine XS.daddS X119.here hx rfl (v := (4618441417868443648 : UInt64)) (hb hby d1_60) rfl (own_nnl (by decide +kernel : FP.dadd (4613937818241073152 : UInt64) (4613937818241073152 : UInt64) = (4618441417868443648 : UInt64)) (by unfold NoNaN64; decide)) (by decide +kernel) ?_
    show own_S p e below T119 m 61 #[oR r0, oR r1, oR r2, oR r3, oI 0, oI 4, oD 4613937818241073152, oV, oD 4613937818241073152, oV, oI 2] [(.double 4618441417868443648)] _
    refine XS.dstore X119.here hx rfl (hb hby d1_61) rfl (l' := #[.val (.ref r0), .val (.ref r1), .val (.ref r2), .val (.ref r3), .val (.int 0), .val (.int 4), .val (.double 4618441417868443648), .second, .val (.double 4613937818241073152), .second, .val (.int 2)]) rfl ?_
    show own_S p e below T119 m 63 #[oR r0, oR r1, oR r2, oR r3, oI 0, oI 4, oD 4618441417868443648, oV, oD 4613937818241073152, oV, oI 2] [] _
    refine XS.dload X119.here hx rfl (hb hby d1_63) rfl ?_
    show own_S p e below T119 m 65 #[oR r0, oR r1, oR r2, oR r3, oI 0, oI 4, oD 4618441417868443648, oV, oD 4613937818241073152, oV, oI 2] [(.double 4613937818241073152)] _
    refine XS.aloadN X119.here hx rfl (hb hby d1_65) rfl rfl ?_
    show own_S p e below T119 m 66 #[oR r0, oR r1, oR r2, oR r3, oI 0, oI 4, oD 4618441417868443648, oV, oD 4613937818241073152, oV, oI 2] [(.ref r2), (.double 4613937818241073152)] _
    refine XS.iload X119.here hx rfl (hb hby d1_66) rfl ?_
    show own_S p e below T119 m 68 #[oR r0, oR r1, oR r2, oR r3, oI 0, oI 4, oD 4618441417868443648, oV, oD 4613937818241073152, oV, oI 2] [(.int 2), (.ref r2), (.double 4613937818241073152)] _
    refine X119.daload hx (j := (2 : Int32)) (v := (.double 4613937818241073152)) (by rw [e119]; exact Ar132.1) (State.isArrayOf_alike hZ.alike Ar132.2.1) Ar132.2.2 hin132 hat132 (g := (mkF m 68 #[.val (.ref r0), .val (.ref r1), .val (.ref r2), .val (.ref r3), .val (.int 0), .val (.int 4), .val (.double 4618441417868443648), .second, .val (.double 4613937818241073152), .second, .val (.int 2)] [(.int 2), (.ref r2), (.double 4613937818241073152)])) rfl rfl (hb hby d1_68) _ ?_
    show own_S p e below T119 m 69 #[oR r0, oR r1, oR r2, oR r3, oI 0, oI 4, oD 4618441417868443648, oV, oD 4613937818241073152, oV, oI 2] [(.double 4613937818241073152), (.double 4613937818241073152)] _
    refine XS.daddS X119.here hx rfl (v := (4618441417868443648 : UInt64)) (hb hby d1_69) rfl (own_nnl (by decide +kernel : FP.dadd (4613937818241073152 : UInt64) (4613937818241073152 : UInt64) = (4618441417868443648 : UInt64)) (by unfold NoNaN64; decide)) (by decide +kernel) ?_
    show own_S p e below T119 m 70 #[oR r0, oR r1, oR r2, oR r3, oI 0, oI 4, oD 4618441417868443648, oV, oD 4613937818241073152, oV, oI 2] [(.double 4618441417868443648)] _
    refine XS.dstore X119.here hx rfl (hb hby d1_70) rfl (l' := #[.val (.ref r0), .val (.ref r1), .val (.ref r2), .val (.ref r3), .val (.int 0), .val (.int 4), .val (.double 4618441417868443648), .second, .val (.double 4618441417868443648), .second, .val (.int 2)]) rfl ?_
    show own_S p e below T119 m 72 #[oR r0, oR r1, oR r2, oR r3, oI 0, oI 4, oD 4618441417868443648, oV, oD 4618441417868443648, oV, oI 2] [] _
    refine XS.iinc X119.here hx rfl (hb hby d1_72) rfl (l' := #[.val (.ref r0), .val (.ref r1), .val (.ref r2), .val (.ref r3), .val (.int 0), .val (.int 4), .val (.double 4618441417868443648), .second, .val (.double 4618441417868443648), .second, .val (.int 3)]) rfl ?_
    show own_S p e below T119 m 75 #[oR r0, oR r1, oR r2, oR r3, oI 0, oI 4, oD 4618441417868443648, oV, oD 4618441417868443648, oV, oI 3] [] _
    refine XS.goto X119.here hx rfl (pc0 := 75) (pc' := 41) rfl (hb hby d1_75) (by decide) (by decide) ?_
    show own_S p e below T119 m 41 #[oR r0, oR r1, oR r2, oR r3, oI 0, oI 4, oD 4618441417868443648, oV, oD 4618441417868443648, oV, oI 3] [] _
    refine XS.iload X119.here hx rfl (hb hby d1_41) rfl ?_
    show own_S p e below T119 m 43 #[oR r0, oR r1, oR r2, oR r3, oI 0, oI 4, oD 4618441417868443648, oV, oD 4618441417868443648, oV, oI 3] [(.int 3)] _
    refine XS.iload X119.here hx rfl (hb hby d1_43) rfl ?_
    show own_S p e below T119 m 45 #[oR r0, oR r1, oR r2, oR r3, oI 0, oI 4, oD 4618441417868443648, oV, oD 4618441417868443648, oV, oI 3] [(.int 4), (.int 3)] _
    refine XS.icmpNo X119.here hx rfl (hb hby d1_45) rfl (tlt (by decide : (3 : Int32) < (4 : Int32))).2.1 ?_
    show own_S p e below T119 m 48 #[oR r0, oR r1, oR r2, oR r3, oI 0, oI 4, oD 4618441417868443648, oV, oD 4618441417868443648, oV, oI 3] [] _
    refine XS.dload X119.here hx rfl (hb hby d1_48) rfl ?_
    show own_S p e below T119 m 50 #[oR r0, oR r1, oR r2, oR r3, oI 0, oI 4, oD 4618441417868443648, oV, oD 4618441417868443648, oV, oI 3] [(.double 4618441417868443648)] _
    refine XS.aloadN X119.here hx rfl (hb hby d1_50) rfl rfl ?_
    show own_S p e below T119 m 51 #[oR r0, oR r1, oR r2, oR r3, oI 0, oI 4, oD 4618441417868443648, oV, oD 4618441417868443648, oV, oI 3] [(.ref r2), (.double 4618441417868443648)] _
    refine XS.iload X119.here hx rfl (hb hby d1_51) rfl ?_
    show own_S p e below T119 m 53 #[oR r0, oR r1, oR r2, oR r3, oI 0, oI 4, oD 4618441417868443648, oV, oD 4618441417868443648, oV, oI 3] [(.int 3), (.ref r2), (.double 4618441417868443648)] _
    refine X119.daload hx (j := (3 : Int32)) (v := (.double 4616189618054758400)) (by rw [e119]; exact Ar133.1) (State.isArrayOf_alike hZ.alike Ar133.2.1) Ar133.2.2 hin133 hat133 (g := (mkF m 53 #[.val (.ref r0), .val (.ref r1), .val (.ref r2), .val (.ref r3), .val (.int 0), .val (.int 4), .val (.double 4618441417868443648), .second, .val (.double 4618441417868443648), .second, .val (.int 3)] [(.int 3), (.ref r2), (.double 4618441417868443648)])) rfl rfl (hb hby d1_53) _ ?_
    show own_S p e below T119 m 54 #[oR r0, oR r1, oR r2, oR r3, oI 0, oI 4, oD 4618441417868443648, oV, oD 4618441417868443648, oV, oI 3] [(.double 4616189618054758400), (.double 4618441417868443648)] _
    refine XS.aloadN X119.here hx rfl (hb hby d1_54) rfl rfl ?_
    show own_S p e below T119 m 55 #[oR r0, oR r1, oR r2, oR r3, oI 0, oI 4, oD 4618441417868443648, oV, oD 4618441417868443648, oV, oI 3] [(.ref r3), (.double 4616189618054758400), (.double 4618441417868443648)] _
    refine XS.iload X119.here hx rfl (hb hby d1_55) rfl ?_
    show own_S p e below T119 m 57 #[oR r0, oR r1, oR r2, oR r3, oI 0, oI 4, oD 4618441417868443648, oV, oD 4618441417868443648, oV, oI 3] [(.int 3), (.ref r3), (.double 4616189618054758400), (.double 4618441417868443648)] _
    refine X119.iaload hx (j := (3 : Int32)) (v := (.int 1)) (by rw [e119]; exact Ar134.1) (State.isArrayOf_alike hZ.alike Ar134.2.1) Ar134.2.2 hin134 hat134 (g := (mkF m 57 #[.val (.ref r0), .val (.ref r1), .val (.ref r2), .val (.ref r3), .val (.int 0), .val (.int 4), .val (.double 4618441417868443648), .second, .val (.double 4618441417868443648), .second, .val (.int 3)] [(.int 3), (.ref r3), (.double 4616189618054758400), (.double 4618441417868443648)])) rfl rfl (hb hby d1_57) _ ?_
    show own_S p e below T119 m 58 #[oR r0, oR r1, oR r2, oR r3, oI 0, oI 4, oD 4618441417868443648, oV, oD 4618441417868443648, oV, oI 3] [(.int 1), (.double 4616189618054758400), (.double 4618441417868443648)] _
    refine XS.i2dS X119.here hx rfl (v := (4607182418800017408 : UInt64)) (hb hby d1_58) rfl (by decide +kernel) ?_
    show own_S p e below T119 m 59 #[oR r0, oR r1, oR r2, oR r3, oI 0, oI 4, oD 4618441417868443648, oV, oD 4618441417868443648, oV, oI 3] [(.double 4607182418800017408), (.double 4616189618054758400), (.double 4618441417868443648)] _
    refine XS.ddivS X119.here hx rfl (v := (4616189618054758400 : UInt64)) (hb hby d1_59) rfl (own_nnl (by decide +kernel : FP.ddiv (4616189618054758400 : UInt64) (4607182418800017408 : UInt64) = (4616189618054758400 : UInt64)) (by unfold NoNaN64; decide)) (by decide +kernel) ?_
    show own_S p e below T119 m 60 #[oR r0, oR r1, oR r2, oR r3, oI 0, oI 4, oD 4618441417868443648, oV, oD 4618441417868443648, oV, oI 3] [(.double 4616189618054758400), (.double 4618441417868443648)] _
    refine XS.daddS X119.here hx rfl (v := (4621819117588971520 : UInt64)) (hb hby d1_60) rfl (own_nnl (by decide +kernel : FP.dadd (4618441417868443648 : UInt64) (4616189618054758400 : UInt64) = (4621819117588971520 : UInt64)) (by unfold NoNaN64; decide)) (by decide +kernel) ?_
    show own_S p e below T119 m 61 #[oR r0, oR r1, oR r2, oR r3, oI 0, oI 4, oD 4618441417868443648, oV, oD 4618441417868443648, oV, oI 3] [(.double 4621819117588971520)] _
    refine XS.dstore X119.here hx rfl (hb hby d1_61) rfl (l' := #[.val (.ref r0), .val (.ref r1), .val (.ref r2), .val (.ref r3), .val (.int 0), .val (.int 4), .val (.double 4621819117588971520), .second, .val (.double 4618441417868443648), .second, .val (.int 3)]) rfl ?_
    show own_S p e below T119 m 63 #[oR r0, oR r1, oR r2, oR r3, oI 0, oI 4, oD 4621819117588971520, oV, oD 4618441417868443648, oV, oI 3] [] _
    refine XS.dload X119.here hx rfl (hb hby d1_63) rfl ?_
    show own_S p e below T119 m 65 #[oR r0, oR r1, oR r2, oR r3, oI 0, oI 4, oD 4621819117588971520, oV, oD 4618441417868443648, oV, oI 3] [(.double 4618441417868443648)] _
    refine XS.aloadN X119.here hx rfl (hb hby d1_65) rfl rfl ?_
    show own_S p e below T119 m 66 #[oR r0, oR r1, oR r2, oR r3, oI 0, oI 4, oD 4621819117588971520, oV, oD 4618441417868443648, oV, oI 3] [(.ref r2), (.double 4618441417868443648)] _
    refine XS.iload X119.here hx rfl (hb hby d1_66) rfl ?_
    show own_S p e below T119 m 68 #[oR r0, oR r1, oR r2, oR r3, oI 0, oI 4, oD 4621819117588971520, oV, oD 4618441417868443648, oV, oI 3] [(.int 3), (.ref r2), (.double 4618441417868443648)] _
    refine X119.daload hx (j := (3 : Int32)) (v := (.double 4616189618054758400)) (by rw [e119]; exact Ar135.1) (State.isArrayOf_alike hZ.alike Ar135.2.1) Ar135.2.2 hin135 hat135 (g := (mkF m 68 #[.val (.ref r0), .val (.ref r1), .val (.ref r2), .val (.ref r3), .val (.int 0), .val (.int 4), .val (.double 4621819117588971520), .second, .val (.double 4618441417868443648), .second, .val (.int 3)] [(.int 3), (.ref r2), (.double 4618441417868443648)])) rfl rfl (hb hby d1_68) _ ?_
    show own_S p e below T119 m 69 #[oR r0, oR r1, oR r2, oR r3, oI 0, oI 4, oD 4621819117588971520, oV, oD 4618441417868443648, oV, oI 3] [(.double 4616189618054758400), (.double 4618441417868443648)] _
    refine XS.daddS X119.here hx rfl (v := (4621819117588971520 : UInt64)) (hb hby d1_69) rfl (own_nnl (by decide +kernel : FP.dadd (4618441417868443648 : UInt64) (4616189618054758400 : UInt64) = (4621819117588971520 : UInt64)) (by unfold NoNaN64; decide)) (by decide +kernel) ?_
    show own_S p e below T119 m 70 #[oR r0, oR r1, oR r2, oR r3, oI 0, oI 4, oD 4621819117588971520, oV, oD 4618441417868443648, oV, oI 3] [(.double 4621819117588971520)] _
    refine XS.dstore X119.here hx rfl (hb hby d1_70) rfl (l' := #[.val (.ref r0), .val (.ref r1), .val (.ref r2), .val (.ref r3), .val (.int 0), .val (.int 4), .val (.double 4621819117588971520), .second, .val (.double 4621819117588971520), .second, .val (.int 3)]) rfl ?_
    show own_S p e below T119 m 72 #[oR r0, oR r1, oR r2, oR r3, oI 0, oI 4, oD 4621819117588971520, oV, oD 4621819117588971520, oV, oI 3] [] _
    refine XS.iinc X119.here hx rfl (hb hby d1_72) rfl (l' := #[.val (.ref r0), .val (.ref r1), .val (.ref r2), .val (.ref r3), .val (.int 0), .val (.int 4), .val (.double 4621819117588971520), .second, .val (.double 4621819117588971520), .second, .val (.int 4)]) rfl ?_
    show own_S p e below T119 m 75 #[oR r0, oR r1, oR r2, oR r3, oI 0, oI 4, oD 4621819117588971520, oV, oD 4621819117588971520, oV, oI 4] [] _
    refine XS.goto X119.here hx rfl (pc0 := 75) (pc' := 41) rfl (hb hby d1_75) (by decide) (by decide) ?_
    show own_S p e below T119 m 41 #[oR r0, oR r1, oR r2, oR r3, oI 0, oI 4, oD 4621819117588971520, oV, oD 4621819117588971520, oV, oI 4] [] _
    refine XS.iload X119.here hx rfl (hb hby d1_41) rfl ?_
    show own_S p e below T119 m 43 #[oR r0, oR r1, oR r2, oR r3, oI 0, oI 4, oD 4621819117588971520, oV, oD 4621819117588971520, oV, oI 4] [(.int 4)] _
    refine XS.iload X119.here hx rfl (hb hby d1_43) rfl ?_
    show own_S p e below T119 m 45 #[oR r0, oR r1, oR r2, oR r3, oI 0, oI 4, oD 4621819117588971520, oV, oD 4621819117588971520, oV, oI 4] [(.int 4), (.int 4)] _
    refine XS.icmpYes X119.here hx rfl (pc0 := 45) (pc' := 78) rfl (hb hby d1_45) rfl (flt (by decide : ¬ ((4 : Int32) < (4 : Int32)))).2.1 (by decide) (by decide) ?_
    show own_S p e below T119 m 78 #[oR r0, oR r1, oR r2, oR r3, oI 0, oI 4, oD 4621819117588971520, oV, oD 4621819117588971520, oV, oI 4] [] _
    refine XS.aloadN X119.here hx rfl (hb hby d1_78) rfl rfl ?_
    show own_S p e below T119 m 79 #[oR r0, oR r1, oR r2, oR r3, oI 0, oI 4, oD 4621819117588971520, oV, oD 4621819117588971520, oV, oI 4] [(.ref r0)] _
    refine XS.dload X119.here hx rfl (hb hby d1_79) rfl ?_
    show own_S p e below T119 m 81 #[oR r0, oR r1, oR r2, oR r3, oI 0, oI 4, oD 4621819117588971520, oV, oD 4621819117588971520, oV, oI 4] [(.double 4621819117588971520), (.ref r0)] _
    refine st138 _ ?_
    show own_S p e below T138 m 84 #[oR r0, oR r1, oR r2, oR r3, oI 0, oI 4, oD 4621819117588971520, oV, oD 4621819117588971520, oV, oI 4] [] _
    refine XS.aloadN X138.here hx rfl (hb hby d1_84) rfl rfl ?_
    show own_S p e below T138 m 85 #[oR r0, oR r1, oR r2, oR r3, oI 0, oI 4, oD 4621819117588971520, oV, oD 4621819117588971520, oV, oI 4] [(.ref r0)] _
    refine XS.dload X138.here hx rfl (hb hby d1_85) rfl ?_
    show own_S p e below T138 m 87 #[oR r0, oR r1, oR r2, oR r3, oI 0, oI 4, oD 4621819117588971520, oV, oD 4621819117588971520, oV, oI 4] [(.double 4621819117588971520), (.ref r0)] _
    refine st142 _ ?_
    show own_S p e below T142 m 90 #[oR r0, oR r1, oR r2, oR r3, oI 0, oI 4, oD 4621819117588971520, oV, oD 4621819117588971520, oV, oI 4] [] _
    exact X142.returnOut hx Bd.returns (hb hby d1_90) hr
  · show Q1_0_4 Z r0 r1 r2 r3 u0 u1 u2 u3 u4 u5 u6 kd ko h0 n0 _ T142.heap _
    rw [e142]
    exact ⟨rfl, N142, KK144, ((Fc137.wr W138).wr W142), ((((((Fw102.other W106 (Or.inr (sn21 hw))).other W110 (Or.inr (sn22 hw))).other W115 (Or.inr (sn23 hw))).other W119 (Or.inr (sn24 hw))).other W138 (Or.inr (sn25 hw))).other W142 (Or.inr (sn26 hw))), (((Fw115.other W119 (Or.inr (sn27 hw))).other W138 (Or.inr (sn28 hw))).other W142 (Or.inr (sn29 hw))), ((Fw119.other W138 (Or.inr (sn30 hw))).other W142 (Or.inr (sn31 hw)))⟩
theorem ef1_1_1 (m : MethodId) (r0 : Addr) (r1 : Addr) (r2 : Addr) (r3 : Addr) : entryFrame m #[(.ref r0), (.ref r1), (.ref r2), (.ref r3), (.int 1), (.int 1)] 11 = mkF m 0 #[.val (.ref r0), .val (.ref r1), .val (.ref r2), .val (.ref r3), .val (.int 1), .val (.int 1), .unset, .unset, .unset, .unset, .unset] [] := by first | (simp [entryFrame, mkF, argsToLocals, Value.category]; done) | rfl
def Q1_1_1 (Z : State) (r0 : Addr) (r1 : Addr) (r2 : Addr) (r3 : Addr) (u0 : Value) (u1 : Value) (u2 : Value) (u3 : Value) (u4 : Value) (u5 : Value) (u6 : Value) (kd : ClassId) (ko : ClassId) (h0 : Heap) (n0 : Nat) (v : Option Value) (h : Heap) (L : List Loc) : Prop := v = none ∧ Fr n0 L ∧ (Keep h0 h [r0]) ∧ (Exa Z h r0 "com/example/buurt/buurt/model/CrossTermFrequencies") ∧ (Fld Z h r0 "com/example/buurt/buurt/model/CrossTermFrequencies" "docs" "[I" (.ref r1)) ∧ (Fld Z h r0 "com/example/buurt/buurt/model/CrossTermFrequencies" "from" "I" (.int 1)) ∧ (Fld Z h r0 "com/example/buurt/buurt/model/CrossTermFrequencies" "to" "I" (.int 1))
set_option maxRecDepth 65536 in
set_option maxHeartbeats 40000000 in
theorem rm1_1_1 (l : Launch) (Z : State) (a0 : Array Value) (hw : ∀ d ∈ tables_1, d.before a0 Z = true) (ws : List Jvm.Cond) (r0 : Addr) (r1 : Addr) (r2 : Addr) (r3 : Addr) (u0 : Value) (u1 : Value) (u2 : Value) (u3 : Value) (u4 : Value) (u5 : Value) (u6 : Value) (kd : ClassId) (ko : ClassId) (h0 : Heap) (n0 : Nat) (Z0 : n0 ≤ h0.size) (F_docs_r0 : Fld Z h0 r0 "com/example/buurt/buurt/model/CrossTermFrequencies" "docs" "[I" u0) (F_tfs_r0 : Fld Z h0 r0 "com/example/buurt/buurt/model/CrossTermFrequencies" "tfs" "[D" u1) (F_occurs_r0 : Fld Z h0 r0 "com/example/buurt/buurt/model/CrossTermFrequencies" "occurs" "[I" u2) (F_from_r0 : Fld Z h0 r0 "com/example/buurt/buurt/model/CrossTermFrequencies" "from" "I" u3) (F_to_r0 : Fld Z h0 r0 "com/example/buurt/buurt/model/CrossTermFrequencies" "to" "I" u4) (F_documentFrequency_r0 : Fld Z h0 r0 "com/example/buurt/buurt/model/CrossTermFrequencies" "documentFrequency" "D" u5) (F_collectionFrequency_r0 : Fld Z h0 r0 "com/example/buurt/buurt/model/CrossTermFrequencies" "collectionFrequency" "D" u6) (E_r0 : Exa Z h0 r0 "com/example/buurt/buurt/model/CrossTermFrequencies") (g_r0 : n0 ≤ r0) (V_r2 : Arv Z h0 r2 kd .double (4 : Int32) [(.double 4607182418800017408), (.double 4611686018427387904), (.double 4613937818241073152), (.double 4616189618054758400)] (.double 0)) (V_r3 : Arv Z h0 r3 ko .int (4 : Int32) [(.int 1), (.int 1), (.int 1), (.int 1)] (.int 0)) (ne_r2_r0 : r2 ≠ r0) (ne_r3_r0 : r3 ≠ r0) :
    MetFree l (⟨"com/example/buurt/buurt/model/CrossTermFrequencies", "<init>", "([I[D[III)V"⟩ : MethodName) (head1 (Jvm.Cond.code (⟨"com/example/buurt/buurt/model/CrossTermFrequencies", "<init>", "([I[D[III)V"⟩ : MethodName) prog_27_method_1_code 11 none :: ws) ({ frames := 1, cells := 0, slots := 0, locals := 12 } : Room)) (fun a U => a = #[(.ref r0), (.ref r1), (.ref r2), (.ref r3), (.int 1), (.int 1)] ∧ Z.Warmed39 U.vm ∧ U.heap = h0) (fun _ _ _ _ _ => True) (fun _ U o U' => ∃ v L, o = .returned v ∧ Q1_1_1 Z r0 r1 r2 r3 u0 u1 u2 u3 u4 u5 u6 kd ko h0 n0 v U'.heap L ∧ FrameEnd U o U' L ({ frames := 1, cells := 0, slots := 0, locals := 12 } : Room).cells ({ frames := 1, cells := 0, slots := 0, locals := 12 } : Room).slots) := by
  refine MetFree.of_bodySF (plainFor_of_name pn0) hisR ?_
  intro p e s m args below meth c s₁ Bd hml0 hP hK
  obtain ⟨rfl, hZ, hh⟩ := hP
  have hx := Bd.exec
  have hby := Bd.bytes
  have hml : c.maxLocals = 11 := hml0
  have hown : s.vm.findClass "com/example/buurt/buurt/model/CrossTermFrequencies" = some m.cls := findClass_of_methodNamed Bd.named
  have hnm := (name_of_methodNamed Bd.named Bd.method).1
  have X0 : Stand p l e ({ frames := 1, cells := 0, slots := 0, locals := 12 } : Room) s m #[(.ref r0), (.ref r1), (.ref r2), (.ref r3), (.int 1), (.int 1)] below meth c s₁ [] 0 0 := Stand.of_body Bd
  have e0 : s₁.heap = h0 := by rw [← hh, Bd.state]; rfl
  have N0 := Fr.nil n0
  have pre0 : ∀ t, Steps p.tables e below (s₁.setTop (mkF m 0 #[.val (.ref r0), .val (.ref r1), .val (.ref r2), .val (.ref r3), .val (.int 1), .val (.int 1), .unset, .unset, .unset, .unset, .unset] [])) t → Steps p.tables e below (s₁.setTop (entryFrame m #[(.ref r0), (.ref r1), (.ref r2), (.ref r3), (.int 1), (.int 1)] 11)) t := fun t k => castTop (ef1_1_1 m r0 r1 r2 r3) k
  obtain ⟨T101, X101, e101, st101⟩ := initO X0 hx hZ hown (own_w hw 12 rfl) (own_w hw 13 rfl) (own_w hw 14 rfl) e0 (g := (mkF m 1 #[.val (.ref r0), .val (.ref r1), .val (.ref r2), .val (.ref r3), .val (.int 1), .val (.int 1), .unset, .unset, .unset, .unset, .unset] [(.ref r0)])) rfl (by rw [hml]; rfl) rfl (hb hby d1_1) (by decide) (W := 0) (by show 2 * 0 + _ ≤ _; exact Nat.le_of_eq rfl) (by decide)
  obtain ⟨T102, h102, X102, e102, W102, st102⟩ := putF X101 hx hZ hown (host := "") (Or.inl (own_w hw 15 rfl)) Via.refl e101 F_docs_r0 E_r0 (Or.inr ⟨(own_w hw 16 rfl), rfl, hnm⟩) (own_w hw 7 rfl) (ty := (.array .int)) (by decide) rfl rfl (g := (mkF m 6 #[.val (.ref r0), .val (.ref r1), .val (.ref r2), .val (.ref r3), .val (.int 1), .val (.int 1), .unset, .unset, .unset, .unset, .unset] [(.ref r1), (.ref r0)])) rfl rfl (hb hby d1_6)
  have Fw102 := F_docs_r0.same W102
  have N102 := Fr.snoc X102 N0 g_r0
  have ZZ103 : n0 ≤ h102.size := Nat.le_trans Z0 (Nat.le_of_eq W102.size.symm)
  have KK104 : Keep h0 h102 [r0] := (Keep.refl h0 [r0]).wr W102 (Or.inl (List.mem_of_getElem? (i := 0) rfl))
  have Fc105 := (F_tfs_r0.other W102 (Or.inr (sn0 hw)))
  obtain ⟨T106, h106, X106, e106, W106, st106⟩ := putF X102 hx hZ hown (host := "") (Or.inl (own_w hw 17 rfl)) Via.refl e102 Fc105 (E_r0.wr W102) (Or.inr ⟨(own_w hw 18 rfl), rfl, hnm⟩) (own_w hw 7 rfl) (ty := (.array .double)) (by decide) rfl rfl (g := (mkF m 11 #[.val (.ref r0), .val (.ref r1), .val (.ref r2), .val (.ref r3), .val (.int 1), .val (.int 1), .unset, .unset, .unset, .unset, .unset] [(.ref r2), (.ref r0)])) rfl rfl (hb hby d1_11)
  have Fw106 := Fc105.same W106
  have N106 := Fr.snoc X106 N102 g_r0
  have ZZ107 : n0 ≤ h106.size := Nat.le_trans ZZ103 (Nat.le_of_eq W106.size.symm)
  have KK108 : Keep h0 h106 [r0] := KK104.wr W106 (Or.inl (List.mem_of_getElem? (i := 0) rfl))
  have Fc109 := ((F_occurs_r0.other W102 (Or.inr (sn1 hw))).other W106 (Or.inr (sn2 hw)))
  obtain ⟨T110, h110, X110, e110, W110, st110⟩ := putF X106 hx hZ hown (host := "") (Or.inl (own_w hw 19 rfl)) Via.refl e106 Fc109 ((E_r0.wr W102).wr W106) (Or.inr ⟨(own_w hw 20 rfl), rfl, hnm⟩) (own_w hw 7 rfl) (ty := (.array .int)) (by decide) rfl rfl (g := (mkF m 16 #[.val (.ref r0), .val (.ref r1), .val (.ref r2), .val (.ref r3), .val (.int 1), .val (.int 1), .unset, .unset, .unset, .unset, .unset] [(.ref r3), (.ref r0)])) rfl rfl (hb hby d1_16)
  have Fw110 := Fc109.same W110
  have N110 := Fr.snoc X110 N106 g_r0
  have ZZ111 : n0 ≤ h110.size := Nat.le_trans ZZ107 (Nat.le_of_eq W110.size.symm)
  have KK112 : Keep h0 h110 [r0] := KK108.wr W110 (Or.inl (List.mem_of_getElem? (i := 0) rfl))
  have Fc113 := (((F_from_r0.other W102 (Or.inr (sn3 hw))).other W106 (Or.inr (sn4 hw))).other W110 (Or.inr (sn5 hw)))
  have Fc114 := (((E_r0.wr W102).wr W106).wr W110)
  obtain ⟨T115, h115, X115, e115, W115, st115⟩ := putF X110 hx hZ hown (host := "") (Or.inl (own_w hw 21 rfl)) Via.refl e110 Fc113 Fc114 (Or.inr ⟨(own_w hw 22 rfl), rfl, hnm⟩) (own_w hw 7 rfl) (ty := .int) (by decide) rfl rfl (g := (mkF m 22 #[.val (.ref r0), .val (.ref r1), .val (.ref r2), .val (.ref r3), .val (.int 1), .val (.int 1), .unset, .unset, .unset, .unset, .unset] [(.int 1), (.ref r0)])) rfl rfl (hb hby d1_22)
  have Fw115 := Fc113.same W115
  have N115 := Fr.snoc X115 N110 g_r0
  have ZZ116 : n0 ≤ h115.size := Nat.le_trans ZZ111 (Nat.le_of_eq W115.size.symm)
  have KK117 : Keep h0 h115 [r0] := KK112.wr W115 (Or.inl (List.mem_of_getElem? (i := 0) rfl))
  have Fc118 := ((((F_to_r0.other W102 (Or.inr (sn6 hw))).other W106 (Or.inr (sn7 hw))).other W110 (Or.inr (sn8 hw))).other W115 (Or.inr (sn9 hw)))
  obtain ⟨T119, h119, X119, e119, W119, st119⟩ := putF X115 hx hZ hown (host := "") (Or.inl (own_w hw 23 rfl)) Via.refl e115 Fc118 (Fc114.wr W115) (Or.inr ⟨(own_w hw 24 rfl), rfl, hnm⟩) (own_w hw 7 rfl) (ty := .int) (by decide) rfl rfl (g := (mkF m 28 #[.val (.ref r0), .val (.ref r1), .val (.ref r2), .val (.ref r3), .val (.int 1), .val (.int 1), .unset, .unset, .unset, .unset, .unset] [(.int 1), (.ref r0)])) rfl rfl (hb hby d1_28)
  have Fw119 := Fc118.same W119
  have N119 := Fr.snoc X119 N115 g_r0
  have ZZ120 : n0 ≤ h119.size := Nat.le_trans ZZ116 (Nat.le_of_eq W119.size.symm)
  have KK121 : Keep h0 h119 [r0] := KK117.wr W119 (Or.inl (List.mem_of_getElem? (i := 0) rfl))
  have Fc122 := (((((F_documentFrequency_r0.other W102 (Or.inr (sn10 hw))).other W106 (Or.inr (sn11 hw))).other W110 (Or.inr (sn12 hw))).other W115 (Or.inr (sn13 hw))).other W119 (Or.inr (sn14 hw)))
  have Fc123 := ((Fc114.wr W115).wr W119)
  obtain ⟨T124, h124, X124, e124, W124, st124⟩ := putF X119 hx hZ hown (host := "") (Or.inl (own_w hw 25 rfl)) Via.refl e119 Fc122 Fc123 (Or.inr ⟨(own_w hw 26 rfl), rfl, hnm⟩) (own_w hw 7 rfl) (ty := .double) (by decide) rfl rfl (g := (mkF m 81 #[.val (.ref r0), .val (.ref r1), .val (.ref r2), .val (.ref r3), .val (.int 1), .val (.int 1), .val (.double 0), .second, .val (.double 0), .second, .val (.int 1)] [(.double 0), (.ref r0)])) rfl rfl (hb hby d1_81)
  have Fw124 := Fc122.same W124
  have N124 := Fr.snoc X124 N119 g_r0
  have ZZ125 : n0 ≤ h124.size := Nat.le_trans ZZ120 (Nat.le_of_eq W124.size.symm)
  have KK126 : Keep h0 h124 [r0] := KK121.wr W124 (Or.inl (List.mem_of_getElem? (i := 0) rfl))
  have Fc127 := ((((((F_collectionFrequency_r0.other W102 (Or.inr (sn15 hw))).other W106 (Or.inr (sn16 hw))).other W110 (Or.inr (sn17 hw))).other W115 (Or.inr (sn18 hw))).other W119 (Or.inr (sn19 hw))).other W124 (Or.inr (sn20 hw)))
  obtain ⟨T128, h128, X128, e128, W128, st128⟩ := putF X124 hx hZ hown (host := "") (Or.inl (own_w hw 27 rfl)) Via.refl e124 Fc127 (Fc123.wr W124) (Or.inr ⟨(own_w hw 28 rfl), rfl, hnm⟩) (own_w hw 7 rfl) (ty := .double) (by decide) rfl rfl (g := (mkF m 87 #[.val (.ref r0), .val (.ref r1), .val (.ref r2), .val (.ref r3), .val (.int 1), .val (.int 1), .val (.double 0), .second, .val (.double 0), .second, .val (.int 1)] [(.double 0), (.ref r0)])) rfl rfl (hb hby d1_87)
  have Fw128 := Fc127.same W128
  have N128 := Fr.snoc X128 N124 g_r0
  have ZZ129 : n0 ≤ h128.size := Nat.le_trans ZZ125 (Nat.le_of_eq W128.size.symm)
  have KK130 : Keep h0 h128 [r0] := KK126.wr W128 (Or.inl (List.mem_of_getElem? (i := 0) rfl))
  obtain ⟨fs, hr, hrun, hended, hW, hsame⟩ := X128.leave (v := none) (fun _ => rfl)
  refine ⟨_, _, pre0 _ ?_, hrun, hended, _, _, rfl, ?_, ⟨_, rfl⟩, hW, hsame.mono (by decide) (by decide)⟩
  · show own_S p e below s₁ m 0 #[oR r0, oR r1, oR r2, oR r3, oI 1, oI 1, oU, oU, oU, oU, oU] [] _
    refine XS.aloadN X0.here hx rfl (hb hby d1_0) rfl rfl ?_
    show own_S p e below s₁ m 1 #[oR r0, oR r1, oR r2, oR r3, oI 1, oI 1, oU, oU, oU, oU, oU] [(.ref r0)] _
    refine st101 _ ?_
    show own_S p e below T101 m 4 #[oR r0, oR r1, oR r2, oR r3, oI 1, oI 1, oU, oU, oU, oU, oU] [] _
    refine XS.aloadN X101.here hx rfl (hb hby d1_4) rfl rfl ?_
    show own_S p e below T101 m 5 #[oR r0, oR r1, oR r2, oR r3, oI 1, oI 1, oU, oU, oU, oU, oU] [(.ref r0)] _
    refine XS.aloadN X101.here hx rfl (hb hby d1_5) rfl rfl ?_
    show own_S p e below T101 m 6 #[oR r0, oR r1, oR r2, oR r3, oI 1, oI 1, oU, oU, oU, oU, oU] [(.ref r1), (.ref r0)] _
    refine st102 _ ?_
    show own_S p e below T102 m 9 #[oR r0, oR r1, oR r2, oR r3, oI 1, oI 1, oU, oU, oU, oU, oU] [] _
    refine XS.aloadN X102.here hx rfl (hb hby d1_9) rfl rfl ?_
    show own_S p e below T102 m 10 #[oR r0, oR r1, oR r2, oR r3, oI 1, oI 1, oU, oU, oU, oU, oU] [(.ref r0)] _
    refine XS.aloadN X102.here hx rfl (hb hby d1_10) rfl rfl ?_
    show own_S p e below T102 m 11 #[oR r0, oR r1, oR r2, oR r3, oI 1, oI 1, oU, oU, oU, oU, oU] [(.ref r2), (.ref r0)] _
    refine st106 _ ?_
    show own_S p e below T106 m 14 #[oR r0, oR r1, oR r2, oR r3, oI 1, oI 1, oU, oU, oU, oU, oU] [] _
    refine XS.aloadN X106.here hx rfl (hb hby d1_14) rfl rfl ?_
    show own_S p e below T106 m 15 #[oR r0, oR r1, oR r2, oR r3, oI 1, oI 1, oU, oU, oU, oU, oU] [(.ref r0)] _
    refine XS.aloadN X106.here hx rfl (hb hby d1_15) rfl rfl ?_
    show own_S p e below T106 m 16 #[oR r0, oR r1, oR r2, oR r3, oI 1, oI 1, oU, oU, oU, oU, oU] [(.ref r3), (.ref r0)] _
    refine st110 _ ?_
    show own_S p e below T110 m 19 #[oR r0, oR r1, oR r2, oR r3, oI 1, oI 1, oU, oU, oU, oU, oU] [] _
    refine XS.aloadN X110.here hx rfl (hb hby d1_19) rfl rfl ?_
    show own_S p e below T110 m 20 #[oR r0, oR r1, oR r2, oR r3, oI 1, oI 1, oU, oU, oU, oU, oU] [(.ref r0)] _
    refine XS.iload X110.here hx rfl (hb hby d1_20) rfl ?_
    show own_S p e below T110 m 22 #[oR r0, oR r1, oR r2, oR r3, oI 1, oI 1, oU, oU, oU, oU, oU] [(.int 1), (.ref r0)] _
    refine st115 _ ?_
    show own_S p e below T115 m 25 #[oR r0, oR r1, oR r2, oR r3, oI 1, oI 1, oU, oU, oU, oU, oU] [] _
    refine XS.aloadN X115.here hx rfl (hb hby d1_25) rfl rfl ?_
    show own_S p e below T115 m 26 #[oR r0, oR r1, oR r2, oR r3, oI 1, oI 1, oU, oU, oU, oU, oU] [(.ref r0)] _
    refine XS.iload X115.here hx rfl (hb hby d1_26) rfl ?_
    show own_S p e below T115 m 28 #[oR r0, oR r1, oR r2, oR r3, oI 1, oI 1, oU, oU, oU, oU, oU] [(.int 1), (.ref r0)] _
    refine st119 _ ?_
    show own_S p e below T119 m 31 #[oR r0, oR r1, oR r2, oR r3, oI 1, oI 1, oU, oU, oU, oU, oU] [] _
    refine XS.dconst0 X119.here hx rfl (v := 0) (hb hby d1_31) rfl ?_
    show own_S p e below T119 m 32 #[oR r0, oR r1, oR r2, oR r3, oI 1, oI 1, oU, oU, oU, oU, oU] [(.double 0)] _
    refine XS.dstore X119.here hx rfl (hb hby d1_32) rfl (l' := #[.val (.ref r0), .val (.ref r1), .val (.ref r2), .val (.ref r3), .val (.int 1), .val (.int 1), .val (.double 0), .second, .unset, .unset, .unset]) rfl ?_
    show own_S p e below T119 m 34 #[oR r0, oR r1, oR r2, oR r3, oI 1, oI 1, oD 0, oV, oU, oU, oU] [] _
    refine XS.dconst0 X119.here hx rfl (v := 0) (hb hby d1_34) rfl ?_
    show own_S p e below T119 m 35 #[oR r0, oR r1, oR r2, oR r3, oI 1, oI 1, oD 0, oV, oU, oU, oU] [(.double 0)] _
    refine XS.dstore X119.here hx rfl (hb hby d1_35) rfl (l' := #[.val (.ref r0), .val (.ref r1), .val (.ref r2), .val (.ref r3), .val (.int 1), .val (.int 1), .val (.double 0), .second, .val (.double 0), .second, .unset]) rfl ?_
    show own_S p e below T119 m 37 #[oR r0, oR r1, oR r2, oR r3, oI 1, oI 1, oD 0, oV, oD 0, oV, oU] [] _
    refine XS.iload X119.here hx rfl (hb hby d1_37) rfl ?_
    show own_S p e below T119 m 39 #[oR r0, oR r1, oR r2, oR r3, oI 1, oI 1, oD 0, oV, oD 0, oV, oU] [(.int 1)] _
    refine XS.istore X119.here hx rfl (hb hby d1_39) rfl (l' := #[.val (.ref r0), .val (.ref r1), .val (.ref r2), .val (.ref r3), .val (.int 1), .val (.int 1), .val (.double 0), .second, .val (.double 0), .second, .val (.int 1)]) rfl ?_
    show own_S p e below T119 m 41 #[oR r0, oR r1, oR r2, oR r3, oI 1, oI 1, oD 0, oV, oD 0, oV, oI 1] [] _
    refine XS.iload X119.here hx rfl (hb hby d1_41) rfl ?_
    show own_S p e below T119 m 43 #[oR r0, oR r1, oR r2, oR r3, oI 1, oI 1, oD 0, oV, oD 0, oV, oI 1] [(.int 1)] _
    refine XS.iload X119.here hx rfl (hb hby d1_43) rfl ?_
    show own_S p e below T119 m 45 #[oR r0, oR r1, oR r2, oR r3, oI 1, oI 1, oD 0, oV, oD 0, oV, oI 1] [(.int 1), (.int 1)] _
    refine XS.icmpYes X119.here hx rfl (pc0 := 45) (pc' := 78) rfl (hb hby d1_45) rfl (flt (by decide : ¬ ((1 : Int32) < (1 : Int32)))).2.1 (by decide) (by decide) ?_
    show own_S p e below T119 m 78 #[oR r0, oR r1, oR r2, oR r3, oI 1, oI 1, oD 0, oV, oD 0, oV, oI 1] [] _
    refine XS.aloadN X119.here hx rfl (hb hby d1_78) rfl rfl ?_
    show own_S p e below T119 m 79 #[oR r0, oR r1, oR r2, oR r3, oI 1, oI 1, oD 0, oV, oD 0, oV, oI 1] [(.ref r0)] _
    refine XS.dload X119.here hx rfl (hb hby d1_79) rfl ?_
    show own_S p e below T119 m 81 #[oR r0, oR r1, oR r2, oR r3, oI 1, oI 1, oD 0, oV, oD 0, oV, oI 1] [(.double 0), (.ref r0)] _
    refine st124 _ ?_
    show own_S p e below T124 m 84 #[oR r0, oR r1, oR r2, oR r3, oI 1, oI 1, oD 0, oV, oD 0, oV, oI 1] [] _
    refine XS.aloadN X124.here hx rfl (hb hby d1_84) rfl rfl ?_
    show own_S p e below T124 m 85 #[oR r0, oR r1, oR r2, oR r3, oI 1, oI 1, oD 0, oV, oD 0, oV, oI 1] [(.ref r0)] _
    refine XS.dload X124.here hx rfl (hb hby d1_85) rfl ?_
    show own_S p e below T124 m 87 #[oR r0, oR r1, oR r2, oR r3, oI 1, oI 1, oD 0, oV, oD 0, oV, oI 1] [(.double 0), (.ref r0)] _
    refine st128 _ ?_
    show own_S p e below T128 m 90 #[oR r0, oR r1, oR r2, oR r3, oI 1, oI 1, oD 0, oV, oD 0, oV, oI 1] [] _
    exact X128.returnOut hx Bd.returns (hb hby d1_90) hr
  · show Q1_1_1 Z r0 r1 r2 r3 u0 u1 u2 u3 u4 u5 u6 kd ko h0 n0 _ T128.heap _
    rw [e128]
    exact ⟨rfl, N128, KK130, ((Fc123.wr W124).wr W128), ((((((Fw102.other W106 (Or.inr (sn21 hw))).other W110 (Or.inr (sn22 hw))).other W115 (Or.inr (sn23 hw))).other W119 (Or.inr (sn24 hw))).other W124 (Or.inr (sn25 hw))).other W128 (Or.inr (sn26 hw))), (((Fw115.other W119 (Or.inr (sn27 hw))).other W124 (Or.inr (sn28 hw))).other W128 (Or.inr (sn29 hw))), ((Fw119.other W124 (Or.inr (sn30 hw))).other W128 (Or.inr (sn31 hw)))⟩
theorem ef1_1_2 (m : MethodId) (r0 : Addr) (r1 : Addr) (r2 : Addr) (r3 : Addr) : entryFrame m #[(.ref r0), (.ref r1), (.ref r2), (.ref r3), (.int 1), (.int 2)] 11 = mkF m 0 #[.val (.ref r0), .val (.ref r1), .val (.ref r2), .val (.ref r3), .val (.int 1), .val (.int 2), .unset, .unset, .unset, .unset, .unset] [] := by first | (simp [entryFrame, mkF, argsToLocals, Value.category]; done) | rfl
def Q1_1_2 (Z : State) (r0 : Addr) (r1 : Addr) (r2 : Addr) (r3 : Addr) (u0 : Value) (u1 : Value) (u2 : Value) (u3 : Value) (u4 : Value) (u5 : Value) (u6 : Value) (kd : ClassId) (ko : ClassId) (h0 : Heap) (n0 : Nat) (v : Option Value) (h : Heap) (L : List Loc) : Prop := v = none ∧ Fr n0 L ∧ (Keep h0 h [r0]) ∧ (Exa Z h r0 "com/example/buurt/buurt/model/CrossTermFrequencies") ∧ (Fld Z h r0 "com/example/buurt/buurt/model/CrossTermFrequencies" "docs" "[I" (.ref r1)) ∧ (Fld Z h r0 "com/example/buurt/buurt/model/CrossTermFrequencies" "from" "I" (.int 1)) ∧ (Fld Z h r0 "com/example/buurt/buurt/model/CrossTermFrequencies" "to" "I" (.int 2))
set_option maxRecDepth 65536 in
set_option maxHeartbeats 40000000 in
theorem rm1_1_2 (l : Launch) (Z : State) (a0 : Array Value) (hw : ∀ d ∈ tables_1, d.before a0 Z = true) (ws : List Jvm.Cond) (r0 : Addr) (r1 : Addr) (r2 : Addr) (r3 : Addr) (u0 : Value) (u1 : Value) (u2 : Value) (u3 : Value) (u4 : Value) (u5 : Value) (u6 : Value) (kd : ClassId) (ko : ClassId) (h0 : Heap) (n0 : Nat) (Z0 : n0 ≤ h0.size) (F_docs_r0 : Fld Z h0 r0 "com/example/buurt/buurt/model/CrossTermFrequencies" "docs" "[I" u0) (F_tfs_r0 : Fld Z h0 r0 "com/example/buurt/buurt/model/CrossTermFrequencies" "tfs" "[D" u1) (F_occurs_r0 : Fld Z h0 r0 "com/example/buurt/buurt/model/CrossTermFrequencies" "occurs" "[I" u2) (F_from_r0 : Fld Z h0 r0 "com/example/buurt/buurt/model/CrossTermFrequencies" "from" "I" u3) (F_to_r0 : Fld Z h0 r0 "com/example/buurt/buurt/model/CrossTermFrequencies" "to" "I" u4) (F_documentFrequency_r0 : Fld Z h0 r0 "com/example/buurt/buurt/model/CrossTermFrequencies" "documentFrequency" "D" u5) (F_collectionFrequency_r0 : Fld Z h0 r0 "com/example/buurt/buurt/model/CrossTermFrequencies" "collectionFrequency" "D" u6) (E_r0 : Exa Z h0 r0 "com/example/buurt/buurt/model/CrossTermFrequencies") (g_r0 : n0 ≤ r0) (V_r2 : Arv Z h0 r2 kd .double (4 : Int32) [(.double 4607182418800017408), (.double 4611686018427387904), (.double 4613937818241073152), (.double 4616189618054758400)] (.double 0)) (V_r3 : Arv Z h0 r3 ko .int (4 : Int32) [(.int 1), (.int 1), (.int 1), (.int 1)] (.int 0)) (ne_r2_r0 : r2 ≠ r0) (ne_r3_r0 : r3 ≠ r0) :
    MetFree l (⟨"com/example/buurt/buurt/model/CrossTermFrequencies", "<init>", "([I[D[III)V"⟩ : MethodName) (head1 (Jvm.Cond.code (⟨"com/example/buurt/buurt/model/CrossTermFrequencies", "<init>", "([I[D[III)V"⟩ : MethodName) prog_27_method_1_code 11 none :: ws) ({ frames := 1, cells := 0, slots := 0, locals := 12 } : Room)) (fun a U => a = #[(.ref r0), (.ref r1), (.ref r2), (.ref r3), (.int 1), (.int 2)] ∧ Z.Warmed39 U.vm ∧ U.heap = h0) (fun _ _ _ _ _ => True) (fun _ U o U' => ∃ v L, o = .returned v ∧ Q1_1_2 Z r0 r1 r2 r3 u0 u1 u2 u3 u4 u5 u6 kd ko h0 n0 v U'.heap L ∧ FrameEnd U o U' L ({ frames := 1, cells := 0, slots := 0, locals := 12 } : Room).cells ({ frames := 1, cells := 0, slots := 0, locals := 12 } : Room).slots) := by
  refine MetFree.of_bodySF (plainFor_of_name pn0) hisR ?_
  intro p e s m args below meth c s₁ Bd hml0 hP hK
  obtain ⟨rfl, hZ, hh⟩ := hP
  have hx := Bd.exec
  have hby := Bd.bytes
  have hml : c.maxLocals = 11 := hml0
  have hown : s.vm.findClass "com/example/buurt/buurt/model/CrossTermFrequencies" = some m.cls := findClass_of_methodNamed Bd.named
  have hnm := (name_of_methodNamed Bd.named Bd.method).1
  have X0 : Stand p l e ({ frames := 1, cells := 0, slots := 0, locals := 12 } : Room) s m #[(.ref r0), (.ref r1), (.ref r2), (.ref r3), (.int 1), (.int 2)] below meth c s₁ [] 0 0 := Stand.of_body Bd
  have e0 : s₁.heap = h0 := by rw [← hh, Bd.state]; rfl
  have N0 := Fr.nil n0
  have pre0 : ∀ t, Steps p.tables e below (s₁.setTop (mkF m 0 #[.val (.ref r0), .val (.ref r1), .val (.ref r2), .val (.ref r3), .val (.int 1), .val (.int 2), .unset, .unset, .unset, .unset, .unset] [])) t → Steps p.tables e below (s₁.setTop (entryFrame m #[(.ref r0), (.ref r1), (.ref r2), (.ref r3), (.int 1), (.int 2)] 11)) t := fun t k => castTop (ef1_1_2 m r0 r1 r2 r3) k
  obtain ⟨T101, X101, e101, st101⟩ := initO X0 hx hZ hown (own_w hw 12 rfl) (own_w hw 13 rfl) (own_w hw 14 rfl) e0 (g := (mkF m 1 #[.val (.ref r0), .val (.ref r1), .val (.ref r2), .val (.ref r3), .val (.int 1), .val (.int 2), .unset, .unset, .unset, .unset, .unset] [(.ref r0)])) rfl (by rw [hml]; rfl) rfl (hb hby d1_1) (by decide) (W := 0) (by show 2 * 0 + _ ≤ _; exact Nat.le_of_eq rfl) (by decide)
  obtain ⟨T102, h102, X102, e102, W102, st102⟩ := putF X101 hx hZ hown (host := "") (Or.inl (own_w hw 15 rfl)) Via.refl e101 F_docs_r0 E_r0 (Or.inr ⟨(own_w hw 16 rfl), rfl, hnm⟩) (own_w hw 7 rfl) (ty := (.array .int)) (by decide) rfl rfl (g := (mkF m 6 #[.val (.ref r0), .val (.ref r1), .val (.ref r2), .val (.ref r3), .val (.int 1), .val (.int 2), .unset, .unset, .unset, .unset, .unset] [(.ref r1), (.ref r0)])) rfl rfl (hb hby d1_6)
  have Fw102 := F_docs_r0.same W102
  have N102 := Fr.snoc X102 N0 g_r0
  have ZZ103 : n0 ≤ h102.size := Nat.le_trans Z0 (Nat.le_of_eq W102.size.symm)
  have KK104 : Keep h0 h102 [r0] := (Keep.refl h0 [r0]).wr W102 (Or.inl (List.mem_of_getElem? (i := 0) rfl))
  have Fc105 := (F_tfs_r0.other W102 (Or.inr (sn0 hw)))
  obtain ⟨T106, h106, X106, e106, W106, st106⟩ := putF X102 hx hZ hown (host := "") (Or.inl (own_w hw 17 rfl)) Via.refl e102 Fc105 (E_r0.wr W102) (Or.inr ⟨(own_w hw 18 rfl), rfl, hnm⟩) (own_w hw 7 rfl) (ty := (.array .double)) (by decide) rfl rfl (g := (mkF m 11 #[.val (.ref r0), .val (.ref r1), .val (.ref r2), .val (.ref r3), .val (.int 1), .val (.int 2), .unset, .unset, .unset, .unset, .unset] [(.ref r2), (.ref r0)])) rfl rfl (hb hby d1_11)
  have Fw106 := Fc105.same W106
  have N106 := Fr.snoc X106 N102 g_r0
  have ZZ107 : n0 ≤ h106.size := Nat.le_trans ZZ103 (Nat.le_of_eq W106.size.symm)
  have KK108 : Keep h0 h106 [r0] := KK104.wr W106 (Or.inl (List.mem_of_getElem? (i := 0) rfl))
  have Fc109 := ((F_occurs_r0.other W102 (Or.inr (sn1 hw))).other W106 (Or.inr (sn2 hw)))
  obtain ⟨T110, h110, X110, e110, W110, st110⟩ := putF X106 hx hZ hown (host := "") (Or.inl (own_w hw 19 rfl)) Via.refl e106 Fc109 ((E_r0.wr W102).wr W106) (Or.inr ⟨(own_w hw 20 rfl), rfl, hnm⟩) (own_w hw 7 rfl) (ty := (.array .int)) (by decide) rfl rfl (g := (mkF m 16 #[.val (.ref r0), .val (.ref r1), .val (.ref r2), .val (.ref r3), .val (.int 1), .val (.int 2), .unset, .unset, .unset, .unset, .unset] [(.ref r3), (.ref r0)])) rfl rfl (hb hby d1_16)
  have Fw110 := Fc109.same W110
  have N110 := Fr.snoc X110 N106 g_r0
  have ZZ111 : n0 ≤ h110.size := Nat.le_trans ZZ107 (Nat.le_of_eq W110.size.symm)
  have KK112 : Keep h0 h110 [r0] := KK108.wr W110 (Or.inl (List.mem_of_getElem? (i := 0) rfl))
  have Fc113 := (((F_from_r0.other W102 (Or.inr (sn3 hw))).other W106 (Or.inr (sn4 hw))).other W110 (Or.inr (sn5 hw)))
  have Fc114 := (((E_r0.wr W102).wr W106).wr W110)
  obtain ⟨T115, h115, X115, e115, W115, st115⟩ := putF X110 hx hZ hown (host := "") (Or.inl (own_w hw 21 rfl)) Via.refl e110 Fc113 Fc114 (Or.inr ⟨(own_w hw 22 rfl), rfl, hnm⟩) (own_w hw 7 rfl) (ty := .int) (by decide) rfl rfl (g := (mkF m 22 #[.val (.ref r0), .val (.ref r1), .val (.ref r2), .val (.ref r3), .val (.int 1), .val (.int 2), .unset, .unset, .unset, .unset, .unset] [(.int 1), (.ref r0)])) rfl rfl (hb hby d1_22)
  have Fw115 := Fc113.same W115
  have N115 := Fr.snoc X115 N110 g_r0
  have ZZ116 : n0 ≤ h115.size := Nat.le_trans ZZ111 (Nat.le_of_eq W115.size.symm)
  have KK117 : Keep h0 h115 [r0] := KK112.wr W115 (Or.inl (List.mem_of_getElem? (i := 0) rfl))
  have Fc118 := ((((F_to_r0.other W102 (Or.inr (sn6 hw))).other W106 (Or.inr (sn7 hw))).other W110 (Or.inr (sn8 hw))).other W115 (Or.inr (sn9 hw)))
  obtain ⟨T119, h119, X119, e119, W119, st119⟩ := putF X115 hx hZ hown (host := "") (Or.inl (own_w hw 23 rfl)) Via.refl e115 Fc118 (Fc114.wr W115) (Or.inr ⟨(own_w hw 24 rfl), rfl, hnm⟩) (own_w hw 7 rfl) (ty := .int) (by decide) rfl rfl (g := (mkF m 28 #[.val (.ref r0), .val (.ref r1), .val (.ref r2), .val (.ref r3), .val (.int 1), .val (.int 2), .unset, .unset, .unset, .unset, .unset] [(.int 2), (.ref r0)])) rfl rfl (hb hby d1_28)
  have Fw119 := Fc118.same W119
  have N119 := Fr.snoc X119 N115 g_r0
  have ZZ120 : n0 ≤ h119.size := Nat.le_trans ZZ116 (Nat.le_of_eq W119.size.symm)
  have KK121 : Keep h0 h119 [r0] := KK117.wr W119 (Or.inl (List.mem_of_getElem? (i := 0) rfl))
  have Fc122 := (((((V_r2.other W102 ne_r2_r0).other W106 ne_r2_r0).other W110 ne_r2_r0).other W115 ne_r2_r0).other W119 ne_r2_r0)
  obtain ⟨cl123, Ar123, qk123, Sz123, Nz123, Hh123, Gg123⟩ := id Fc122
  have hin123 : ¬ ((1 : Int32) < 0 ∨ cl123.slots.size ≤ ((1 : Int32)).toNatClampNeg) := inb_of Sz123 ⟨by decide, by decide⟩
  have hat123 : cl123.slots[((1 : Int32)).toNatClampNeg]? = some (.double 4611686018427387904) := Has.at Hh123 hin123 rfl
  have Fc124 := (((((V_r3.other W102 ne_r3_r0).other W106 ne_r3_r0).other W110 ne_r3_r0).other W115 ne_r3_r0).other W119 ne_r3_r0)
  obtain ⟨cl125, Ar125, qk125, Sz125, Nz125, Hh125, Gg125⟩ := id Fc124
  have hin125 : ¬ ((1 : Int32) < 0 ∨ cl125.slots.size ≤ ((1 : Int32)).toNatClampNeg) := inb_of Sz125 ⟨by decide, by decide⟩
  have hat125 : cl125.slots[((1 : Int32)).toNatClampNeg]? = some (.int 1) := Has.at Hh125 hin125 rfl
  obtain ⟨cl126, Ar126, qk126, Sz126, Nz126, Hh126, Gg126⟩ := id Fc122
  have hin126 : ¬ ((1 : Int32) < 0 ∨ cl126.slots.size ≤ ((1 : Int32)).toNatClampNeg) := inb_of Sz126 ⟨by decide, by decide⟩
  have hat126 : cl126.slots[((1 : Int32)).toNatClampNeg]? = some (.double 4611686018427387904) := Has.at Hh126 hin126 rfl
  have Fc127 := (((((F_documentFrequency_r0.other W102 (Or.inr (sn10 hw))).other W106 (Or.inr (sn11 hw))).other W110 (Or.inr (sn12 hw))).other W115 (Or.inr (sn13 hw))).other W119 (Or.inr (sn14 hw)))
  have Fc128 := ((Fc114.wr W115).wr W119)
  obtain ⟨T129, h129, X129, e129, W129, st129⟩ := putF X119 hx hZ hown (host := "") (Or.inl (own_w hw 25 rfl)) Via.refl e119 Fc127 Fc128 (Or.inr ⟨(own_w hw 26 rfl), rfl, hnm⟩) (own_w hw 7 rfl) (ty := .double) (by decide) rfl rfl (g := (mkF m 81 #[.val (.ref r0), .val (.ref r1), .val (.ref r2), .val (.ref r3), .val (.int 1), .val (.int 2), .val (.double 4611686018427387904), .second, .val (.double 4611686018427387904), .second, .val (.int 2)] [(.double 4611686018427387904), (.ref r0)])) rfl rfl (hb hby d1_81)
  have Fw129 := Fc127.same W129
  have N129 := Fr.snoc X129 N119 g_r0
  have ZZ130 : n0 ≤ h129.size := Nat.le_trans ZZ120 (Nat.le_of_eq W129.size.symm)
  have KK131 : Keep h0 h129 [r0] := KK121.wr W129 (Or.inl (List.mem_of_getElem? (i := 0) rfl))
  have Fc132 := ((((((F_collectionFrequency_r0.other W102 (Or.inr (sn15 hw))).other W106 (Or.inr (sn16 hw))).other W110 (Or.inr (sn17 hw))).other W115 (Or.inr (sn18 hw))).other W119 (Or.inr (sn19 hw))).other W129 (Or.inr (sn20 hw)))
  obtain ⟨T133, h133, X133, e133, W133, st133⟩ := putF X129 hx hZ hown (host := "") (Or.inl (own_w hw 27 rfl)) Via.refl e129 Fc132 (Fc128.wr W129) (Or.inr ⟨(own_w hw 28 rfl), rfl, hnm⟩) (own_w hw 7 rfl) (ty := .double) (by decide) rfl rfl (g := (mkF m 87 #[.val (.ref r0), .val (.ref r1), .val (.ref r2), .val (.ref r3), .val (.int 1), .val (.int 2), .val (.double 4611686018427387904), .second, .val (.double 4611686018427387904), .second, .val (.int 2)] [(.double 4611686018427387904), (.ref r0)])) rfl rfl (hb hby d1_87)
  have Fw133 := Fc132.same W133
  have N133 := Fr.snoc X133 N129 g_r0
  have ZZ134 : n0 ≤ h133.size := Nat.le_trans ZZ130 (Nat.le_of_eq W133.size.symm)
  have KK135 : Keep h0 h133 [r0] := KK131.wr W133 (Or.inl (List.mem_of_getElem? (i := 0) rfl))
  obtain ⟨fs, hr, hrun, hended, hW, hsame⟩ := X133.leave (v := none) (fun _ => rfl)
  refine ⟨_, _, pre0 _ ?_, hrun, hended, _, _, rfl, ?_, ⟨_, rfl⟩, hW, hsame.mono (by decide) (by decide)⟩
  · show own_S p e below s₁ m 0 #[oR r0, oR r1, oR r2, oR r3, oI 1, oI 2, oU, oU, oU, oU, oU] [] _
    refine XS.aloadN X0.here hx rfl (hb hby d1_0) rfl rfl ?_
    show own_S p e below s₁ m 1 #[oR r0, oR r1, oR r2, oR r3, oI 1, oI 2, oU, oU, oU, oU, oU] [(.ref r0)] _
    refine st101 _ ?_
    show own_S p e below T101 m 4 #[oR r0, oR r1, oR r2, oR r3, oI 1, oI 2, oU, oU, oU, oU, oU] [] _
    refine XS.aloadN X101.here hx rfl (hb hby d1_4) rfl rfl ?_
    show own_S p e below T101 m 5 #[oR r0, oR r1, oR r2, oR r3, oI 1, oI 2, oU, oU, oU, oU, oU] [(.ref r0)] _
    refine XS.aloadN X101.here hx rfl (hb hby d1_5) rfl rfl ?_
    show own_S p e below T101 m 6 #[oR r0, oR r1, oR r2, oR r3, oI 1, oI 2, oU, oU, oU, oU, oU] [(.ref r1), (.ref r0)] _
    refine st102 _ ?_
    show own_S p e below T102 m 9 #[oR r0, oR r1, oR r2, oR r3, oI 1, oI 2, oU, oU, oU, oU, oU] [] _
    refine XS.aloadN X102.here hx rfl (hb hby d1_9) rfl rfl ?_
    show own_S p e below T102 m 10 #[oR r0, oR r1, oR r2, oR r3, oI 1, oI 2, oU, oU, oU, oU, oU] [(.ref r0)] _
    refine XS.aloadN X102.here hx rfl (hb hby d1_10) rfl rfl ?_
    show own_S p e below T102 m 11 #[oR r0, oR r1, oR r2, oR r3, oI 1, oI 2, oU, oU, oU, oU, oU] [(.ref r2), (.ref r0)] _
    refine st106 _ ?_
    show own_S p e below T106 m 14 #[oR r0, oR r1, oR r2, oR r3, oI 1, oI 2, oU, oU, oU, oU, oU] [] _
    refine XS.aloadN X106.here hx rfl (hb hby d1_14) rfl rfl ?_
    show own_S p e below T106 m 15 #[oR r0, oR r1, oR r2, oR r3, oI 1, oI 2, oU, oU, oU, oU, oU] [(.ref r0)] _
    refine XS.aloadN X106.here hx rfl (hb hby d1_15) rfl rfl ?_
    show own_S p e below T106 m 16 #[oR r0, oR r1, oR r2, oR r3, oI 1, oI 2, oU, oU, oU, oU, oU] [(.ref r3), (.ref r0)] _
    refine st110 _ ?_
    show own_S p e below T110 m 19 #[oR r0, oR r1, oR r2, oR r3, oI 1, oI 2, oU, oU, oU, oU, oU] [] _
    refine XS.aloadN X110.here hx rfl (hb hby d1_19) rfl rfl ?_
    show own_S p e below T110 m 20 #[oR r0, oR r1, oR r2, oR r3, oI 1, oI 2, oU, oU, oU, oU, oU] [(.ref r0)] _
    refine XS.iload X110.here hx rfl (hb hby d1_20) rfl ?_
    show own_S p e below T110 m 22 #[oR r0, oR r1, oR r2, oR r3, oI 1, oI 2, oU, oU, oU, oU, oU] [(.int 1), (.ref r0)] _
    refine st115 _ ?_
    show own_S p e below T115 m 25 #[oR r0, oR r1, oR r2, oR r3, oI 1, oI 2, oU, oU, oU, oU, oU] [] _
    refine XS.aloadN X115.here hx rfl (hb hby d1_25) rfl rfl ?_
    show own_S p e below T115 m 26 #[oR r0, oR r1, oR r2, oR r3, oI 1, oI 2, oU, oU, oU, oU, oU] [(.ref r0)] _
    refine XS.iload X115.here hx rfl (hb hby d1_26) rfl ?_
    show own_S p e below T115 m 28 #[oR r0, oR r1, oR r2, oR r3, oI 1, oI 2, oU, oU, oU, oU, oU] [(.int 2), (.ref r0)] _
    refine st119 _ ?_
    show own_S p e below T119 m 31 #[oR r0, oR r1, oR r2, oR r3, oI 1, oI 2, oU, oU, oU, oU, oU] [] _
    refine XS.dconst0 X119.here hx rfl (v := 0) (hb hby d1_31) rfl ?_
    show own_S p e below T119 m 32 #[oR r0, oR r1, oR r2, oR r3, oI 1, oI 2, oU, oU, oU, oU, oU] [(.double 0)] _
    refine XS.dstore X119.here hx rfl (hb hby d1_32) rfl (l' := #[.val (.ref r0), .val (.ref r1), .val (.ref r2), .val (.ref r3), .val (.int 1), .val (.int 2), .val (.double 0), .second, .unset, .unset, .unset]) rfl ?_
    show own_S p e below T119 m 34 #[oR r0, oR r1, oR r2, oR r3, oI 1, oI 2, oD 0, oV, oU, oU, oU] [] _
    refine XS.dconst0 X119.here hx rfl (v := 0) (hb hby d1_34) rfl ?_
    show own_S p e below T119 m 35 #[oR r0, oR r1, oR r2, oR r3, oI 1, oI 2, oD 0, oV, oU, oU, oU] [(.double 0)] _
    refine XS.dstore X119.here hx rfl (hb hby d1_35) rfl (l' := #[.val (.ref r0), .val (.ref r1), .val (.ref r2), .val (.ref r3), .val (.int 1), .val (.int 2), .val (.double 0), .second, .val (.double 0), .second, .unset]) rfl ?_
    show own_S p e below T119 m 37 #[oR r0, oR r1, oR r2, oR r3, oI 1, oI 2, oD 0, oV, oD 0, oV, oU] [] _
    refine XS.iload X119.here hx rfl (hb hby d1_37) rfl ?_
    show own_S p e below T119 m 39 #[oR r0, oR r1, oR r2, oR r3, oI 1, oI 2, oD 0, oV, oD 0, oV, oU] [(.int 1)] _
    refine XS.istore X119.here hx rfl (hb hby d1_39) rfl (l' := #[.val (.ref r0), .val (.ref r1), .val (.ref r2), .val (.ref r3), .val (.int 1), .val (.int 2), .val (.double 0), .second, .val (.double 0), .second, .val (.int 1)]) rfl ?_
    show own_S p e below T119 m 41 #[oR r0, oR r1, oR r2, oR r3, oI 1, oI 2, oD 0, oV, oD 0, oV, oI 1] [] _
    refine XS.iload X119.here hx rfl (hb hby d1_41) rfl ?_
    show own_S p e below T119 m 43 #[oR r0, oR r1, oR r2, oR r3, oI 1, oI 2, oD 0, oV, oD 0, oV, oI 1] [(.int 1)] _
    refine XS.iload X119.here hx rfl (hb hby d1_43) rfl ?_
    show own_S p e below T119 m 45 #[oR r0, oR r1, oR r2, oR r3, oI 1, oI 2, oD 0, oV, oD 0, oV, oI 1] [(.int 2), (.int 1)] _
    refine XS.icmpNo X119.here hx rfl (hb hby d1_45) rfl (tlt (by decide : (1 : Int32) < (2 : Int32))).2.1 ?_
    show own_S p e below T119 m 48 #[oR r0, oR r1, oR r2, oR r3, oI 1, oI 2, oD 0, oV, oD 0, oV, oI 1] [] _
    refine XS.dload X119.here hx rfl (hb hby d1_48) rfl ?_
    show own_S p e below T119 m 50 #[oR r0, oR r1, oR r2, oR r3, oI 1, oI 2, oD 0, oV, oD 0, oV, oI 1] [(.double 0)] _
    refine XS.aloadN X119.here hx rfl (hb hby d1_50) rfl rfl ?_
    show own_S p e below T119 m 51 #[oR r0, oR r1, oR r2, oR r3, oI 1, oI 2, oD 0, oV, oD 0, oV, oI 1] [(.ref r2), (.double 0)] _
    refine XS.iload X119.here hx rfl (hb hby d1_51) rfl ?_
    show own_S p e below T119 m 53 #[oR r0, oR r1, oR r2, oR r3, oI 1, oI 2, oD 0, oV, oD 0, oV, oI 1] [(.int 1), (.ref r2), (.double 0)] _
    refine X119.daload hx (j := (1 : Int32)) (v := (.double 4611686018427387904)) (by rw [e119]; exact Ar123.1) (State.isArrayOf_alike hZ.alike Ar123.2.1) Ar123.2.2 hin123 hat123 (g := (mkF m 53 #[.val (.ref r0), .val (.ref r1), .val (.ref r2), .val (.ref r3), .val (.int 1), .val (.int 2), .val (.double 0), .second, .val (.double 0), .second, .val (.int 1)] [(.int 1), (.ref r2), (.double 0)])) rfl rfl (hb hby d1_53) _ ?_
    show own_S p e below T119 m 54 #[oR r0, oR r1, oR r2, oR r3, oI 1, oI 2, oD 0, oV, oD 0, oV, oI 1] [(.double 4611686018427387904), (.double 0)] _
    refine XS.aloadN X119.here hx rfl (hb hby d1_54) rfl rfl ?_
    show own_S p e below T119 m 55 #[oR r0, oR r1, oR r2, oR r3, oI 1, oI 2, oD 0, oV, oD 0, oV, oI 1] [(.ref r3), (.double 4611686018427387904), (.double 0)] _
    refine XS.iload X119.here hx rfl (hb hby d1_55) rfl ?_
    show own_S p e below T119 m 57 #[oR r0, oR r1, oR r2, oR r3, oI 1, oI 2, oD 0, oV, oD 0, oV, oI 1] [(.int 1), (.ref r3), (.double 4611686018427387904), (.double 0)] _
    refine X119.iaload hx (j := (1 : Int32)) (v := (.int 1)) (by rw [e119]; exact Ar125.1) (State.isArrayOf_alike hZ.alike Ar125.2.1) Ar125.2.2 hin125 hat125 (g := (mkF m 57 #[.val (.ref r0), .val (.ref r1), .val (.ref r2), .val (.ref r3), .val (.int 1), .val (.int 2), .val (.double 0), .second, .val (.double 0), .second, .val (.int 1)] [(.int 1), (.ref r3), (.double 4611686018427387904), (.double 0)])) rfl rfl (hb hby d1_57) _ ?_
    show own_S p e below T119 m 58 #[oR r0, oR r1, oR r2, oR r3, oI 1, oI 2, oD 0, oV, oD 0, oV, oI 1] [(.int 1), (.double 4611686018427387904), (.double 0)] _
    refine XS.i2dS X119.here hx rfl (v := (4607182418800017408 : UInt64)) (hb hby d1_58) rfl (by decide +kernel) ?_
    show own_S p e below T119 m 59 #[oR r0, oR r1, oR r2, oR r3, oI 1, oI 2, oD 0, oV, oD 0, oV, oI 1] [(.double 4607182418800017408), (.double 4611686018427387904), (.double 0)] _
    refine XS.ddivS X119.here hx rfl (v := (4611686018427387904 : UInt64)) (hb hby d1_59) rfl (own_nnl (by decide +kernel : FP.ddiv (4611686018427387904 : UInt64) (4607182418800017408 : UInt64) = (4611686018427387904 : UInt64)) (by unfold NoNaN64; decide)) (by decide +kernel) ?_
    show own_S p e below T119 m 60 #[oR r0, oR r1, oR r2, oR r3, oI 1, oI 2, oD 0, oV, oD 0, oV, oI 1] [(.double 4611686018427387904), (.double 0)] _
    refine XS.daddS X119.here hx rfl (v := (4611686018427387904 : UInt64)) (hb hby d1_60) rfl (own_nnl (by decide +kernel : FP.dadd (0 : UInt64) (4611686018427387904 : UInt64) = (4611686018427387904 : UInt64)) (by unfold NoNaN64; decide)) (by decide +kernel) ?_
    show own_S p e below T119 m 61 #[oR r0, oR r1, oR r2, oR r3, oI 1, oI 2, oD 0, oV, oD 0, oV, oI 1] [(.double 4611686018427387904)] _
    refine XS.dstore X119.here hx rfl (hb hby d1_61) rfl (l' := #[.val (.ref r0), .val (.ref r1), .val (.ref r2), .val (.ref r3), .val (.int 1), .val (.int 2), .val (.double 4611686018427387904), .second, .val (.double 0), .second, .val (.int 1)]) rfl ?_
    show own_S p e below T119 m 63 #[oR r0, oR r1, oR r2, oR r3, oI 1, oI 2, oD 4611686018427387904, oV, oD 0, oV, oI 1] [] _
    refine XS.dload X119.here hx rfl (hb hby d1_63) rfl ?_
    show own_S p e below T119 m 65 #[oR r0, oR r1, oR r2, oR r3, oI 1, oI 2, oD 4611686018427387904, oV, oD 0, oV, oI 1] [(.double 0)] _
    refine XS.aloadN X119.here hx rfl (hb hby d1_65) rfl rfl ?_
    show own_S p e below T119 m 66 #[oR r0, oR r1, oR r2, oR r3, oI 1, oI 2, oD 4611686018427387904, oV, oD 0, oV, oI 1] [(.ref r2), (.double 0)] _
    refine XS.iload X119.here hx rfl (hb hby d1_66) rfl ?_
    show own_S p e below T119 m 68 #[oR r0, oR r1, oR r2, oR r3, oI 1, oI 2, oD 4611686018427387904, oV, oD 0, oV, oI 1] [(.int 1), (.ref r2), (.double 0)] _
    refine X119.daload hx (j := (1 : Int32)) (v := (.double 4611686018427387904)) (by rw [e119]; exact Ar126.1) (State.isArrayOf_alike hZ.alike Ar126.2.1) Ar126.2.2 hin126 hat126 (g := (mkF m 68 #[.val (.ref r0), .val (.ref r1), .val (.ref r2), .val (.ref r3), .val (.int 1), .val (.int 2), .val (.double 4611686018427387904), .second, .val (.double 0), .second, .val (.int 1)] [(.int 1), (.ref r2), (.double 0)])) rfl rfl (hb hby d1_68) _ ?_
    show own_S p e below T119 m 69 #[oR r0, oR r1, oR r2, oR r3, oI 1, oI 2, oD 4611686018427387904, oV, oD 0, oV, oI 1] [(.double 4611686018427387904), (.double 0)] _
    refine XS.daddS X119.here hx rfl (v := (4611686018427387904 : UInt64)) (hb hby d1_69) rfl (own_nnl (by decide +kernel : FP.dadd (0 : UInt64) (4611686018427387904 : UInt64) = (4611686018427387904 : UInt64)) (by unfold NoNaN64; decide)) (by decide +kernel) ?_
    show own_S p e below T119 m 70 #[oR r0, oR r1, oR r2, oR r3, oI 1, oI 2, oD 4611686018427387904, oV, oD 0, oV, oI 1] [(.double 4611686018427387904)] _
    refine XS.dstore X119.here hx rfl (hb hby d1_70) rfl (l' := #[.val (.ref r0), .val (.ref r1), .val (.ref r2), .val (.ref r3), .val (.int 1), .val (.int 2), .val (.double 4611686018427387904), .second, .val (.double 4611686018427387904), .second, .val (.int 1)]) rfl ?_
    show own_S p e below T119 m 72 #[oR r0, oR r1, oR r2, oR r3, oI 1, oI 2, oD 4611686018427387904, oV, oD 4611686018427387904, oV, oI 1] [] _
    refine XS.iinc X119.here hx rfl (hb hby d1_72) rfl (l' := #[.val (.ref r0), .val (.ref r1), .val (.ref r2), .val (.ref r3), .val (.int 1), .val (.int 2), .val (.double 4611686018427387904), .second, .val (.double 4611686018427387904), .second, .val (.int 2)]) rfl ?_
    show own_S p e below T119 m 75 #[oR r0, oR r1, oR r2, oR r3, oI 1, oI 2, oD 4611686018427387904, oV, oD 4611686018427387904, oV, oI 2] [] _
    refine XS.goto X119.here hx rfl (pc0 := 75) (pc' := 41) rfl (hb hby d1_75) (by decide) (by decide) ?_
    show own_S p e below T119 m 41 #[oR r0, oR r1, oR r2, oR r3, oI 1, oI 2, oD 4611686018427387904, oV, oD 4611686018427387904, oV, oI 2] [] _
    refine XS.iload X119.here hx rfl (hb hby d1_41) rfl ?_
    show own_S p e below T119 m 43 #[oR r0, oR r1, oR r2, oR r3, oI 1, oI 2, oD 4611686018427387904, oV, oD 4611686018427387904, oV, oI 2] [(.int 2)] _
    refine XS.iload X119.here hx rfl (hb hby d1_43) rfl ?_
    show own_S p e below T119 m 45 #[oR r0, oR r1, oR r2, oR r3, oI 1, oI 2, oD 4611686018427387904, oV, oD 4611686018427387904, oV, oI 2] [(.int 2), (.int 2)] _
    refine XS.icmpYes X119.here hx rfl (pc0 := 45) (pc' := 78) rfl (hb hby d1_45) rfl (flt (by decide : ¬ ((2 : Int32) < (2 : Int32)))).2.1 (by decide) (by decide) ?_
    show own_S p e below T119 m 78 #[oR r0, oR r1, oR r2, oR r3, oI 1, oI 2, oD 4611686018427387904, oV, oD 4611686018427387904, oV, oI 2] [] _
    refine XS.aloadN X119.here hx rfl (hb hby d1_78) rfl rfl ?_
    show own_S p e below T119 m 79 #[oR r0, oR r1, oR r2, oR r3, oI 1, oI 2, oD 4611686018427387904, oV, oD 4611686018427387904, oV, oI 2] [(.ref r0)] _
    refine XS.dload X119.here hx rfl (hb hby d1_79) rfl ?_
    show own_S p e below T119 m 81 #[oR r0, oR r1, oR r2, oR r3, oI 1, oI 2, oD 4611686018427387904, oV, oD 4611686018427387904, oV, oI 2] [(.double 4611686018427387904), (.ref r0)] _
    refine st129 _ ?_
    show own_S p e below T129 m 84 #[oR r0, oR r1, oR r2, oR r3, oI 1, oI 2, oD 4611686018427387904, oV, oD 4611686018427387904, oV, oI 2] [] _
    refine XS.aloadN X129.here hx rfl (hb hby d1_84) rfl rfl ?_
    show own_S p e below T129 m 85 #[oR r0, oR r1, oR r2, oR r3, oI 1, oI 2, oD 4611686018427387904, oV, oD 4611686018427387904, oV, oI 2] [(.ref r0)] _
    refine XS.dload X129.here hx rfl (hb hby d1_85) rfl ?_
    show own_S p e below T129 m 87 #[oR r0, oR r1, oR r2, oR r3, oI 1, oI 2, oD 4611686018427387904, oV, oD 4611686018427387904, oV, oI 2] [(.double 4611686018427387904), (.ref r0)] _
    refine st133 _ ?_
    show own_S p e below T133 m 90 #[oR r0, oR r1, oR r2, oR r3, oI 1, oI 2, oD 4611686018427387904, oV, oD 4611686018427387904, oV, oI 2] [] _
    exact X133.returnOut hx Bd.returns (hb hby d1_90) hr
  · show Q1_1_2 Z r0 r1 r2 r3 u0 u1 u2 u3 u4 u5 u6 kd ko h0 n0 _ T133.heap _
    rw [e133]
    exact ⟨rfl, N133, KK135, ((Fc128.wr W129).wr W133), ((((((Fw102.other W106 (Or.inr (sn21 hw))).other W110 (Or.inr (sn22 hw))).other W115 (Or.inr (sn23 hw))).other W119 (Or.inr (sn24 hw))).other W129 (Or.inr (sn25 hw))).other W133 (Or.inr (sn26 hw))), (((Fw115.other W119 (Or.inr (sn27 hw))).other W129 (Or.inr (sn28 hw))).other W133 (Or.inr (sn29 hw))), ((Fw119.other W129 (Or.inr (sn30 hw))).other W133 (Or.inr (sn31 hw)))⟩
theorem ef1_1_3 (m : MethodId) (r0 : Addr) (r1 : Addr) (r2 : Addr) (r3 : Addr) : entryFrame m #[(.ref r0), (.ref r1), (.ref r2), (.ref r3), (.int 1), (.int 3)] 11 = mkF m 0 #[.val (.ref r0), .val (.ref r1), .val (.ref r2), .val (.ref r3), .val (.int 1), .val (.int 3), .unset, .unset, .unset, .unset, .unset] [] := by first | (simp [entryFrame, mkF, argsToLocals, Value.category]; done) | rfl
def Q1_1_3 (Z : State) (r0 : Addr) (r1 : Addr) (r2 : Addr) (r3 : Addr) (u0 : Value) (u1 : Value) (u2 : Value) (u3 : Value) (u4 : Value) (u5 : Value) (u6 : Value) (kd : ClassId) (ko : ClassId) (h0 : Heap) (n0 : Nat) (v : Option Value) (h : Heap) (L : List Loc) : Prop := v = none ∧ Fr n0 L ∧ (Keep h0 h [r0]) ∧ (Exa Z h r0 "com/example/buurt/buurt/model/CrossTermFrequencies") ∧ (Fld Z h r0 "com/example/buurt/buurt/model/CrossTermFrequencies" "docs" "[I" (.ref r1)) ∧ (Fld Z h r0 "com/example/buurt/buurt/model/CrossTermFrequencies" "from" "I" (.int 1)) ∧ (Fld Z h r0 "com/example/buurt/buurt/model/CrossTermFrequencies" "to" "I" (.int 3))
set_option maxRecDepth 65536 in
set_option maxHeartbeats 40000000 in
theorem rm1_1_3 (l : Launch) (Z : State) (a0 : Array Value) (hw : ∀ d ∈ tables_1, d.before a0 Z = true) (ws : List Jvm.Cond) (r0 : Addr) (r1 : Addr) (r2 : Addr) (r3 : Addr) (u0 : Value) (u1 : Value) (u2 : Value) (u3 : Value) (u4 : Value) (u5 : Value) (u6 : Value) (kd : ClassId) (ko : ClassId) (h0 : Heap) (n0 : Nat) (Z0 : n0 ≤ h0.size) (F_docs_r0 : Fld Z h0 r0 "com/example/buurt/buurt/model/CrossTermFrequencies" "docs" "[I" u0) (F_tfs_r0 : Fld Z h0 r0 "com/example/buurt/buurt/model/CrossTermFrequencies" "tfs" "[D" u1) (F_occurs_r0 : Fld Z h0 r0 "com/example/buurt/buurt/model/CrossTermFrequencies" "occurs" "[I" u2) (F_from_r0 : Fld Z h0 r0 "com/example/buurt/buurt/model/CrossTermFrequencies" "from" "I" u3) (F_to_r0 : Fld Z h0 r0 "com/example/buurt/buurt/model/CrossTermFrequencies" "to" "I" u4) (F_documentFrequency_r0 : Fld Z h0 r0 "com/example/buurt/buurt/model/CrossTermFrequencies" "documentFrequency" "D" u5) (F_collectionFrequency_r0 : Fld Z h0 r0 "com/example/buurt/buurt/model/CrossTermFrequencies" "collectionFrequency" "D" u6) (E_r0 : Exa Z h0 r0 "com/example/buurt/buurt/model/CrossTermFrequencies") (g_r0 : n0 ≤ r0) (V_r2 : Arv Z h0 r2 kd .double (4 : Int32) [(.double 4607182418800017408), (.double 4611686018427387904), (.double 4613937818241073152), (.double 4616189618054758400)] (.double 0)) (V_r3 : Arv Z h0 r3 ko .int (4 : Int32) [(.int 1), (.int 1), (.int 1), (.int 1)] (.int 0)) (ne_r2_r0 : r2 ≠ r0) (ne_r3_r0 : r3 ≠ r0) :
    MetFree l (⟨"com/example/buurt/buurt/model/CrossTermFrequencies", "<init>", "([I[D[III)V"⟩ : MethodName) (head1 (Jvm.Cond.code (⟨"com/example/buurt/buurt/model/CrossTermFrequencies", "<init>", "([I[D[III)V"⟩ : MethodName) prog_27_method_1_code 11 none :: ws) ({ frames := 1, cells := 0, slots := 0, locals := 12 } : Room)) (fun a U => a = #[(.ref r0), (.ref r1), (.ref r2), (.ref r3), (.int 1), (.int 3)] ∧ Z.Warmed39 U.vm ∧ U.heap = h0) (fun _ _ _ _ _ => True) (fun _ U o U' => ∃ v L, o = .returned v ∧ Q1_1_3 Z r0 r1 r2 r3 u0 u1 u2 u3 u4 u5 u6 kd ko h0 n0 v U'.heap L ∧ FrameEnd U o U' L ({ frames := 1, cells := 0, slots := 0, locals := 12 } : Room).cells ({ frames := 1, cells := 0, slots := 0, locals := 12 } : Room).slots) := by
  refine MetFree.of_bodySF (plainFor_of_name pn0) hisR ?_
  intro p e s m args below meth c s₁ Bd hml0 hP hK
  obtain ⟨rfl, hZ, hh⟩ := hP
  have hx := Bd.exec
  have hby := Bd.bytes
  have hml : c.maxLocals = 11 := hml0
  have hown : s.vm.findClass "com/example/buurt/buurt/model/CrossTermFrequencies" = some m.cls := findClass_of_methodNamed Bd.named
  have hnm := (name_of_methodNamed Bd.named Bd.method).1
  have X0 : Stand p l e ({ frames := 1, cells := 0, slots := 0, locals := 12 } : Room) s m #[(.ref r0), (.ref r1), (.ref r2), (.ref r3), (.int 1), (.int 3)] below meth c s₁ [] 0 0 := Stand.of_body Bd
  have e0 : s₁.heap = h0 := by rw [← hh, Bd.state]; rfl
  have N0 := Fr.nil n0
  have pre0 : ∀ t, Steps p.tables e below (s₁.setTop (mkF m 0 #[.val (.ref r0), .val (.ref r1), .val (.ref r2), .val (.ref r3), .val (.int 1), .val (.int 3), .unset, .unset, .unset, .unset, .unset] [])) t → Steps p.tables e below (s₁.setTop (entryFrame m #[(.ref r0), (.ref r1), (.ref r2), (.ref r3), (.int 1), (.int 3)] 11)) t := fun t k => castTop (ef1_1_3 m r0 r1 r2 r3) k
  obtain ⟨T101, X101, e101, st101⟩ := initO X0 hx hZ hown (own_w hw 12 rfl) (own_w hw 13 rfl) (own_w hw 14 rfl) e0 (g := (mkF m 1 #[.val (.ref r0), .val (.ref r1), .val (.ref r2), .val (.ref r3), .val (.int 1), .val (.int 3), .unset, .unset, .unset, .unset, .unset] [(.ref r0)])) rfl (by rw [hml]; rfl) rfl (hb hby d1_1) (by decide) (W := 0) (by show 2 * 0 + _ ≤ _; exact Nat.le_of_eq rfl) (by decide)
  obtain ⟨T102, h102, X102, e102, W102, st102⟩ := putF X101 hx hZ hown (host := "") (Or.inl (own_w hw 15 rfl)) Via.refl e101 F_docs_r0 E_r0 (Or.inr ⟨(own_w hw 16 rfl), rfl, hnm⟩) (own_w hw 7 rfl) (ty := (.array .int)) (by decide) rfl rfl (g := (mkF m 6 #[.val (.ref r0), .val (.ref r1), .val (.ref r2), .val (.ref r3), .val (.int 1), .val (.int 3), .unset, .unset, .unset, .unset, .unset] [(.ref r1), (.ref r0)])) rfl rfl (hb hby d1_6)
  have Fw102 := F_docs_r0.same W102
  have N102 := Fr.snoc X102 N0 g_r0
  have ZZ103 : n0 ≤ h102.size := Nat.le_trans Z0 (Nat.le_of_eq W102.size.symm)
  have KK104 : Keep h0 h102 [r0] := (Keep.refl h0 [r0]).wr W102 (Or.inl (List.mem_of_getElem? (i := 0) rfl))
  have Fc105 := (F_tfs_r0.other W102 (Or.inr (sn0 hw)))
  obtain ⟨T106, h106, X106, e106, W106, st106⟩ := putF X102 hx hZ hown (host := "") (Or.inl (own_w hw 17 rfl)) Via.refl e102 Fc105 (E_r0.wr W102) (Or.inr ⟨(own_w hw 18 rfl), rfl, hnm⟩) (own_w hw 7 rfl) (ty := (.array .double)) (by decide) rfl rfl (g := (mkF m 11 #[.val (.ref r0), .val (.ref r1), .val (.ref r2), .val (.ref r3), .val (.int 1), .val (.int 3), .unset, .unset, .unset, .unset, .unset] [(.ref r2), (.ref r0)])) rfl rfl (hb hby d1_11)
  have Fw106 := Fc105.same W106
  have N106 := Fr.snoc X106 N102 g_r0
  have ZZ107 : n0 ≤ h106.size := Nat.le_trans ZZ103 (Nat.le_of_eq W106.size.symm)
  have KK108 : Keep h0 h106 [r0] := KK104.wr W106 (Or.inl (List.mem_of_getElem? (i := 0) rfl))
  have Fc109 := ((F_occurs_r0.other W102 (Or.inr (sn1 hw))).other W106 (Or.inr (sn2 hw)))
  obtain ⟨T110, h110, X110, e110, W110, st110⟩ := putF X106 hx hZ hown (host := "") (Or.inl (own_w hw 19 rfl)) Via.refl e106 Fc109 ((E_r0.wr W102).wr W106) (Or.inr ⟨(own_w hw 20 rfl), rfl, hnm⟩) (own_w hw 7 rfl) (ty := (.array .int)) (by decide) rfl rfl (g := (mkF m 16 #[.val (.ref r0), .val (.ref r1), .val (.ref r2), .val (.ref r3), .val (.int 1), .val (.int 3), .unset, .unset, .unset, .unset, .unset] [(.ref r3), (.ref r0)])) rfl rfl (hb hby d1_16)
  have Fw110 := Fc109.same W110
  have N110 := Fr.snoc X110 N106 g_r0
  have ZZ111 : n0 ≤ h110.size := Nat.le_trans ZZ107 (Nat.le_of_eq W110.size.symm)
  have KK112 : Keep h0 h110 [r0] := KK108.wr W110 (Or.inl (List.mem_of_getElem? (i := 0) rfl))
  have Fc113 := (((F_from_r0.other W102 (Or.inr (sn3 hw))).other W106 (Or.inr (sn4 hw))).other W110 (Or.inr (sn5 hw)))
  have Fc114 := (((E_r0.wr W102).wr W106).wr W110)
  obtain ⟨T115, h115, X115, e115, W115, st115⟩ := putF X110 hx hZ hown (host := "") (Or.inl (own_w hw 21 rfl)) Via.refl e110 Fc113 Fc114 (Or.inr ⟨(own_w hw 22 rfl), rfl, hnm⟩) (own_w hw 7 rfl) (ty := .int) (by decide) rfl rfl (g := (mkF m 22 #[.val (.ref r0), .val (.ref r1), .val (.ref r2), .val (.ref r3), .val (.int 1), .val (.int 3), .unset, .unset, .unset, .unset, .unset] [(.int 1), (.ref r0)])) rfl rfl (hb hby d1_22)
  have Fw115 := Fc113.same W115
  have N115 := Fr.snoc X115 N110 g_r0
  have ZZ116 : n0 ≤ h115.size := Nat.le_trans ZZ111 (Nat.le_of_eq W115.size.symm)
  have KK117 : Keep h0 h115 [r0] := KK112.wr W115 (Or.inl (List.mem_of_getElem? (i := 0) rfl))
  have Fc118 := ((((F_to_r0.other W102 (Or.inr (sn6 hw))).other W106 (Or.inr (sn7 hw))).other W110 (Or.inr (sn8 hw))).other W115 (Or.inr (sn9 hw)))
  obtain ⟨T119, h119, X119, e119, W119, st119⟩ := putF X115 hx hZ hown (host := "") (Or.inl (own_w hw 23 rfl)) Via.refl e115 Fc118 (Fc114.wr W115) (Or.inr ⟨(own_w hw 24 rfl), rfl, hnm⟩) (own_w hw 7 rfl) (ty := .int) (by decide) rfl rfl (g := (mkF m 28 #[.val (.ref r0), .val (.ref r1), .val (.ref r2), .val (.ref r3), .val (.int 1), .val (.int 3), .unset, .unset, .unset, .unset, .unset] [(.int 3), (.ref r0)])) rfl rfl (hb hby d1_28)
  have Fw119 := Fc118.same W119
  have N119 := Fr.snoc X119 N115 g_r0
  have ZZ120 : n0 ≤ h119.size := Nat.le_trans ZZ116 (Nat.le_of_eq W119.size.symm)
  have KK121 : Keep h0 h119 [r0] := KK117.wr W119 (Or.inl (List.mem_of_getElem? (i := 0) rfl))
  have Fc122 := (((((V_r2.other W102 ne_r2_r0).other W106 ne_r2_r0).other W110 ne_r2_r0).other W115 ne_r2_r0).other W119 ne_r2_r0)
  obtain ⟨cl123, Ar123, qk123, Sz123, Nz123, Hh123, Gg123⟩ := id Fc122
  have hin123 : ¬ ((1 : Int32) < 0 ∨ cl123.slots.size ≤ ((1 : Int32)).toNatClampNeg) := inb_of Sz123 ⟨by decide, by decide⟩
  have hat123 : cl123.slots[((1 : Int32)).toNatClampNeg]? = some (.double 4611686018427387904) := Has.at Hh123 hin123 rfl
  have Fc124 := (((((V_r3.other W102 ne_r3_r0).other W106 ne_r3_r0).other W110 ne_r3_r0).other W115 ne_r3_r0).other W119 ne_r3_r0)
  obtain ⟨cl125, Ar125, qk125, Sz125, Nz125, Hh125, Gg125⟩ := id Fc124
  have hin125 : ¬ ((1 : Int32) < 0 ∨ cl125.slots.size ≤ ((1 : Int32)).toNatClampNeg) := inb_of Sz125 ⟨by decide, by decide⟩
  have hat125 : cl125.slots[((1 : Int32)).toNatClampNeg]? = some (.int 1) := Has.at Hh125 hin125 rfl
  obtain ⟨cl126, Ar126, qk126, Sz126, Nz126, Hh126, Gg126⟩ := id Fc122
  have hin126 : ¬ ((1 : Int32) < 0 ∨ cl126.slots.size ≤ ((1 : Int32)).toNatClampNeg) := inb_of Sz126 ⟨by decide, by decide⟩
  have hat126 : cl126.slots[((1 : Int32)).toNatClampNeg]? = some (.double 4611686018427387904) := Has.at Hh126 hin126 rfl
  obtain ⟨cl127, Ar127, qk127, Sz127, Nz127, Hh127, Gg127⟩ := id Fc122
  have hin127 : ¬ ((2 : Int32) < 0 ∨ cl127.slots.size ≤ ((2 : Int32)).toNatClampNeg) := inb_of Sz127 ⟨by decide, by decide⟩
  have hat127 : cl127.slots[((2 : Int32)).toNatClampNeg]? = some (.double 4613937818241073152) := Has.at Hh127 hin127 rfl
  obtain ⟨cl128, Ar128, qk128, Sz128, Nz128, Hh128, Gg128⟩ := id Fc124
  have hin128 : ¬ ((2 : Int32) < 0 ∨ cl128.slots.size ≤ ((2 : Int32)).toNatClampNeg) := inb_of Sz128 ⟨by decide, by decide⟩
  have hat128 : cl128.slots[((2 : Int32)).toNatClampNeg]? = some (.int 1) := Has.at Hh128 hin128 rfl
  obtain ⟨cl129, Ar129, qk129, Sz129, Nz129, Hh129, Gg129⟩ := id Fc122
  have hin129 : ¬ ((2 : Int32) < 0 ∨ cl129.slots.size ≤ ((2 : Int32)).toNatClampNeg) := inb_of Sz129 ⟨by decide, by decide⟩
  have hat129 : cl129.slots[((2 : Int32)).toNatClampNeg]? = some (.double 4613937818241073152) := Has.at Hh129 hin129 rfl
  have Fc130 := (((((F_documentFrequency_r0.other W102 (Or.inr (sn10 hw))).other W106 (Or.inr (sn11 hw))).other W110 (Or.inr (sn12 hw))).other W115 (Or.inr (sn13 hw))).other W119 (Or.inr (sn14 hw)))
  have Fc131 := ((Fc114.wr W115).wr W119)
  obtain ⟨T132, h132, X132, e132, W132, st132⟩ := putF X119 hx hZ hown (host := "") (Or.inl (own_w hw 25 rfl)) Via.refl e119 Fc130 Fc131 (Or.inr ⟨(own_w hw 26 rfl), rfl, hnm⟩) (own_w hw 7 rfl) (ty := .double) (by decide) rfl rfl (g := (mkF m 81 #[.val (.ref r0), .val (.ref r1), .val (.ref r2), .val (.ref r3), .val (.int 1), .val (.int 3), .val (.double 4617315517961601024), .second, .val (.double 4617315517961601024), .second, .val (.int 3)] [(.double 4617315517961601024), (.ref r0)])) rfl rfl (hb hby d1_81)
  have Fw132 := Fc130.same W132
  have N132 := Fr.snoc X132 N119 g_r0
  have ZZ133 : n0 ≤ h132.size := Nat.le_trans ZZ120 (Nat.le_of_eq W132.size.symm)
  have KK134 : Keep h0 h132 [r0] := KK121.wr W132 (Or.inl (List.mem_of_getElem? (i := 0) rfl))
  have Fc135 := ((((((F_collectionFrequency_r0.other W102 (Or.inr (sn15 hw))).other W106 (Or.inr (sn16 hw))).other W110 (Or.inr (sn17 hw))).other W115 (Or.inr (sn18 hw))).other W119 (Or.inr (sn19 hw))).other W132 (Or.inr (sn20 hw)))
  obtain ⟨T136, h136, X136, e136, W136, st136⟩ := putF X132 hx hZ hown (host := "") (Or.inl (own_w hw 27 rfl)) Via.refl e132 Fc135 (Fc131.wr W132) (Or.inr ⟨(own_w hw 28 rfl), rfl, hnm⟩) (own_w hw 7 rfl) (ty := .double) (by decide) rfl rfl (g := (mkF m 87 #[.val (.ref r0), .val (.ref r1), .val (.ref r2), .val (.ref r3), .val (.int 1), .val (.int 3), .val (.double 4617315517961601024), .second, .val (.double 4617315517961601024), .second, .val (.int 3)] [(.double 4617315517961601024), (.ref r0)])) rfl rfl (hb hby d1_87)
  have Fw136 := Fc135.same W136
  have N136 := Fr.snoc X136 N132 g_r0
  have ZZ137 : n0 ≤ h136.size := Nat.le_trans ZZ133 (Nat.le_of_eq W136.size.symm)
  have KK138 : Keep h0 h136 [r0] := KK134.wr W136 (Or.inl (List.mem_of_getElem? (i := 0) rfl))
  obtain ⟨fs, hr, hrun, hended, hW, hsame⟩ := X136.leave (v := none) (fun _ => rfl)
  refine ⟨_, _, pre0 _ ?_, hrun, hended, _, _, rfl, ?_, ⟨_, rfl⟩, hW, hsame.mono (by decide) (by decide)⟩
  · show own_S p e below s₁ m 0 #[oR r0, oR r1, oR r2, oR r3, oI 1, oI 3, oU, oU, oU, oU, oU] [] _
    refine XS.aloadN X0.here hx rfl (hb hby d1_0) rfl rfl ?_
    show own_S p e below s₁ m 1 #[oR r0, oR r1, oR r2, oR r3, oI 1, oI 3, oU, oU, oU, oU, oU] [(.ref r0)] _
    refine st101 _ ?_
    show own_S p e below T101 m 4 #[oR r0, oR r1, oR r2, oR r3, oI 1, oI 3, oU, oU, oU, oU, oU] [] _
    refine XS.aloadN X101.here hx rfl (hb hby d1_4) rfl rfl ?_
    show own_S p e below T101 m 5 #[oR r0, oR r1, oR r2, oR r3, oI 1, oI 3, oU, oU, oU, oU, oU] [(.ref r0)] _
    refine XS.aloadN X101.here hx rfl (hb hby d1_5) rfl rfl ?_
    show own_S p e below T101 m 6 #[oR r0, oR r1, oR r2, oR r3, oI 1, oI 3, oU, oU, oU, oU, oU] [(.ref r1), (.ref r0)] _
    refine st102 _ ?_
    show own_S p e below T102 m 9 #[oR r0, oR r1, oR r2, oR r3, oI 1, oI 3, oU, oU, oU, oU, oU] [] _
    refine XS.aloadN X102.here hx rfl (hb hby d1_9) rfl rfl ?_
    show own_S p e below T102 m 10 #[oR r0, oR r1, oR r2, oR r3, oI 1, oI 3, oU, oU, oU, oU, oU] [(.ref r0)] _
    refine XS.aloadN X102.here hx rfl (hb hby d1_10) rfl rfl ?_
    show own_S p e below T102 m 11 #[oR r0, oR r1, oR r2, oR r3, oI 1, oI 3, oU, oU, oU, oU, oU] [(.ref r2), (.ref r0)] _
    refine st106 _ ?_
    show own_S p e below T106 m 14 #[oR r0, oR r1, oR r2, oR r3, oI 1, oI 3, oU, oU, oU, oU, oU] [] _
    refine XS.aloadN X106.here hx rfl (hb hby d1_14) rfl rfl ?_
    show own_S p e below T106 m 15 #[oR r0, oR r1, oR r2, oR r3, oI 1, oI 3, oU, oU, oU, oU, oU] [(.ref r0)] _
    refine XS.aloadN X106.here hx rfl (hb hby d1_15) rfl rfl ?_
    show own_S p e below T106 m 16 #[oR r0, oR r1, oR r2, oR r3, oI 1, oI 3, oU, oU, oU, oU, oU] [(.ref r3), (.ref r0)] _
    refine st110 _ ?_
    show own_S p e below T110 m 19 #[oR r0, oR r1, oR r2, oR r3, oI 1, oI 3, oU, oU, oU, oU, oU] [] _
    refine XS.aloadN X110.here hx rfl (hb hby d1_19) rfl rfl ?_
    show own_S p e below T110 m 20 #[oR r0, oR r1, oR r2, oR r3, oI 1, oI 3, oU, oU, oU, oU, oU] [(.ref r0)] _
    refine XS.iload X110.here hx rfl (hb hby d1_20) rfl ?_
    show own_S p e below T110 m 22 #[oR r0, oR r1, oR r2, oR r3, oI 1, oI 3, oU, oU, oU, oU, oU] [(.int 1), (.ref r0)] _
    refine st115 _ ?_
    show own_S p e below T115 m 25 #[oR r0, oR r1, oR r2, oR r3, oI 1, oI 3, oU, oU, oU, oU, oU] [] _
    refine XS.aloadN X115.here hx rfl (hb hby d1_25) rfl rfl ?_
    show own_S p e below T115 m 26 #[oR r0, oR r1, oR r2, oR r3, oI 1, oI 3, oU, oU, oU, oU, oU] [(.ref r0)] _
    refine XS.iload X115.here hx rfl (hb hby d1_26) rfl ?_
    show own_S p e below T115 m 28 #[oR r0, oR r1, oR r2, oR r3, oI 1, oI 3, oU, oU, oU, oU, oU] [(.int 3), (.ref r0)] _
    refine st119 _ ?_
    show own_S p e below T119 m 31 #[oR r0, oR r1, oR r2, oR r3, oI 1, oI 3, oU, oU, oU, oU, oU] [] _
    refine XS.dconst0 X119.here hx rfl (v := 0) (hb hby d1_31) rfl ?_
    show own_S p e below T119 m 32 #[oR r0, oR r1, oR r2, oR r3, oI 1, oI 3, oU, oU, oU, oU, oU] [(.double 0)] _
    refine XS.dstore X119.here hx rfl (hb hby d1_32) rfl (l' := #[.val (.ref r0), .val (.ref r1), .val (.ref r2), .val (.ref r3), .val (.int 1), .val (.int 3), .val (.double 0), .second, .unset, .unset, .unset]) rfl ?_
    show own_S p e below T119 m 34 #[oR r0, oR r1, oR r2, oR r3, oI 1, oI 3, oD 0, oV, oU, oU, oU] [] _
    refine XS.dconst0 X119.here hx rfl (v := 0) (hb hby d1_34) rfl ?_
    show own_S p e below T119 m 35 #[oR r0, oR r1, oR r2, oR r3, oI 1, oI 3, oD 0, oV, oU, oU, oU] [(.double 0)] _
    refine XS.dstore X119.here hx rfl (hb hby d1_35) rfl (l' := #[.val (.ref r0), .val (.ref r1), .val (.ref r2), .val (.ref r3), .val (.int 1), .val (.int 3), .val (.double 0), .second, .val (.double 0), .second, .unset]) rfl ?_
    show own_S p e below T119 m 37 #[oR r0, oR r1, oR r2, oR r3, oI 1, oI 3, oD 0, oV, oD 0, oV, oU] [] _
    refine XS.iload X119.here hx rfl (hb hby d1_37) rfl ?_
    show own_S p e below T119 m 39 #[oR r0, oR r1, oR r2, oR r3, oI 1, oI 3, oD 0, oV, oD 0, oV, oU] [(.int 1)] _
    refine XS.istore X119.here hx rfl (hb hby d1_39) rfl (l' := #[.val (.ref r0), .val (.ref r1), .val (.ref r2), .val (.ref r3), .val (.int 1), .val (.int 3), .val (.double 0), .second, .val (.double 0), .second, .val (.int 1)]) rfl ?_
    show own_S p e below T119 m 41 #[oR r0, oR r1, oR r2, oR r3, oI 1, oI 3, oD 0, oV, oD 0, oV, oI 1] [] _
    refine XS.iload X119.here hx rfl (hb hby d1_41) rfl ?_
    show own_S p e below T119 m 43 #[oR r0, oR r1, oR r2, oR r3, oI 1, oI 3, oD 0, oV, oD 0, oV, oI 1] [(.int 1)] _
    refine XS.iload X119.here hx rfl (hb hby d1_43) rfl ?_
    show own_S p e below T119 m 45 #[oR r0, oR r1, oR r2, oR r3, oI 1, oI 3, oD 0, oV, oD 0, oV, oI 1] [(.int 3), (.int 1)] _
    refine XS.icmpNo X119.here hx rfl (hb hby d1_45) rfl (tlt (by decide : (1 : Int32) < (3 : Int32))).2.1 ?_
    show own_S p e below T119 m 48 #[oR r0, oR r1, oR r2, oR r3, oI 1, oI 3, oD 0, oV, oD 0, oV, oI 1] [] _
    refine XS.dload X119.here hx rfl (hb hby d1_48) rfl ?_
    show own_S p e below T119 m 50 #[oR r0, oR r1, oR r2, oR r3, oI 1, oI 3, oD 0, oV, oD 0, oV, oI 1] [(.double 0)] _
    refine XS.aloadN X119.here hx rfl (hb hby d1_50) rfl rfl ?_
    show own_S p e below T119 m 51 #[oR r0, oR r1, oR r2, oR r3, oI 1, oI 3, oD 0, oV, oD 0, oV, oI 1] [(.ref r2), (.double 0)] _
    refine XS.iload X119.here hx rfl (hb hby d1_51) rfl ?_
    show own_S p e below T119 m 53 #[oR r0, oR r1, oR r2, oR r3, oI 1, oI 3, oD 0, oV, oD 0, oV, oI 1] [(.int 1), (.ref r2), (.double 0)] _
    refine X119.daload hx (j := (1 : Int32)) (v := (.double 4611686018427387904)) (by rw [e119]; exact Ar123.1) (State.isArrayOf_alike hZ.alike Ar123.2.1) Ar123.2.2 hin123 hat123 (g := (mkF m 53 #[.val (.ref r0), .val (.ref r1), .val (.ref r2), .val (.ref r3), .val (.int 1), .val (.int 3), .val (.double 0), .second, .val (.double 0), .second, .val (.int 1)] [(.int 1), (.ref r2), (.double 0)])) rfl rfl (hb hby d1_53) _ ?_
    show own_S p e below T119 m 54 #[oR r0, oR r1, oR r2, oR r3, oI 1, oI 3, oD 0, oV, oD 0, oV, oI 1] [(.double 4611686018427387904), (.double 0)] _
    refine XS.aloadN X119.here hx rfl (hb hby d1_54) rfl rfl ?_
    show own_S p e below T119 m 55 #[oR r0, oR r1, oR r2, oR r3, oI 1, oI 3, oD 0, oV, oD 0, oV, oI 1] [(.ref r3), (.double 4611686018427387904), (.double 0)] _
    refine XS.iload X119.here hx rfl (hb hby d1_55) rfl ?_
    show own_S p e below T119 m 57 #[oR r0, oR r1, oR r2, oR r3, oI 1, oI 3, oD 0, oV, oD 0, oV, oI 1] [(.int 1), (.ref r3), (.double 4611686018427387904), (.double 0)] _
    refine X119.iaload hx (j := (1 : Int32)) (v := (.int 1)) (by rw [e119]; exact Ar125.1) (State.isArrayOf_alike hZ.alike Ar125.2.1) Ar125.2.2 hin125 hat125 (g := (mkF m 57 #[.val (.ref r0), .val (.ref r1), .val (.ref r2), .val (.ref r3), .val (.int 1), .val (.int 3), .val (.double 0), .second, .val (.double 0), .second, .val (.int 1)] [(.int 1), (.ref r3), (.double 4611686018427387904), (.double 0)])) rfl rfl (hb hby d1_57) _ ?_
    show own_S p e below T119 m 58 #[oR r0, oR r1, oR r2, oR r3, oI 1, oI 3, oD 0, oV, oD 0, oV, oI 1] [(.int 1), (.double 4611686018427387904), (.double 0)] _
    refine XS.i2dS X119.here hx rfl (v := (4607182418800017408 : UInt64)) (hb hby d1_58) rfl (by decide +kernel) ?_
    show own_S p e below T119 m 59 #[oR r0, oR r1, oR r2, oR r3, oI 1, oI 3, oD 0, oV, oD 0, oV, oI 1] [(.double 4607182418800017408), (.double 4611686018427387904), (.double 0)] _
    refine XS.ddivS X119.here hx rfl (v := (4611686018427387904 : UInt64)) (hb hby d1_59) rfl (own_nnl (by decide +kernel : FP.ddiv (4611686018427387904 : UInt64) (4607182418800017408 : UInt64) = (4611686018427387904 : UInt64)) (by unfold NoNaN64; decide)) (by decide +kernel) ?_
    show own_S p e below T119 m 60 #[oR r0, oR r1, oR r2, oR r3, oI 1, oI 3, oD 0, oV, oD 0, oV, oI 1] [(.double 4611686018427387904), (.double 0)] _
    refine XS.daddS X119.here hx rfl (v := (4611686018427387904 : UInt64)) (hb hby d1_60) rfl (own_nnl (by decide +kernel : FP.dadd (0 : UInt64) (4611686018427387904 : UInt64) = (4611686018427387904 : UInt64)) (by unfold NoNaN64; decide)) (by decide +kernel) ?_
    show own_S p e below T119 m 61 #[oR r0, oR r1, oR r2, oR r3, oI 1, oI 3, oD 0, oV, oD 0, oV, oI 1] [(.double 4611686018427387904)] _
    refine XS.dstore X119.here hx rfl (hb hby d1_61) rfl (l' := #[.val (.ref r0), .val (.ref r1), .val (.ref r2), .val (.ref r3), .val (.int 1), .val (.int 3), .val (.double 4611686018427387904), .second, .val (.double 0), .second, .val (.int 1)]) rfl ?_
    show own_S p e below T119 m 63 #[oR r0, oR r1, oR r2, oR r3, oI 1, oI 3, oD 4611686018427387904, oV, oD 0, oV, oI 1] [] _
    refine XS.dload X119.here hx rfl (hb hby d1_63) rfl ?_
    show own_S p e below T119 m 65 #[oR r0, oR r1, oR r2, oR r3, oI 1, oI 3, oD 4611686018427387904, oV, oD 0, oV, oI 1] [(.double 0)] _
    refine XS.aloadN X119.here hx rfl (hb hby d1_65) rfl rfl ?_
    show own_S p e below T119 m 66 #[oR r0, oR r1, oR r2, oR r3, oI 1, oI 3, oD 4611686018427387904, oV, oD 0, oV, oI 1] [(.ref r2), (.double 0)] _
    refine XS.iload X119.here hx rfl (hb hby d1_66) rfl ?_
    show own_S p e below T119 m 68 #[oR r0, oR r1, oR r2, oR r3, oI 1, oI 3, oD 4611686018427387904, oV, oD 0, oV, oI 1] [(.int 1), (.ref r2), (.double 0)] _
    refine X119.daload hx (j := (1 : Int32)) (v := (.double 4611686018427387904)) (by rw [e119]; exact Ar126.1) (State.isArrayOf_alike hZ.alike Ar126.2.1) Ar126.2.2 hin126 hat126 (g := (mkF m 68 #[.val (.ref r0), .val (.ref r1), .val (.ref r2), .val (.ref r3), .val (.int 1), .val (.int 3), .val (.double 4611686018427387904), .second, .val (.double 0), .second, .val (.int 1)] [(.int 1), (.ref r2), (.double 0)])) rfl rfl (hb hby d1_68) _ ?_
    show own_S p e below T119 m 69 #[oR r0, oR r1, oR r2, oR r3, oI 1, oI 3, oD 4611686018427387904, oV, oD 0, oV, oI 1] [(.double 4611686018427387904), (.double 0)] _
    refine XS.daddS X119.here hx rfl (v := (4611686018427387904 : UInt64)) (hb hby d1_69) rfl (own_nnl (by decide +kernel : FP.dadd (0 : UInt64) (4611686018427387904 : UInt64) = (4611686018427387904 : UInt64)) (by unfold NoNaN64; decide)) (by decide +kernel) ?_
    show own_S p e below T119 m 70 #[oR r0, oR r1, oR r2, oR r3, oI 1, oI 3, oD 4611686018427387904, oV, oD 0, oV, oI 1] [(.double 4611686018427387904)] _
    refine XS.dstore X119.here hx rfl (hb hby d1_70) rfl (l' := #[.val (.ref r0), .val (.ref r1), .val (.ref r2), .val (.ref r3), .val (.int 1), .val (.int 3), .val (.double 4611686018427387904), .second, .val (.double 4611686018427387904), .second, .val (.int 1)]) rfl ?_
    show own_S p e below T119 m 72 #[oR r0, oR r1, oR r2, oR r3, oI 1, oI 3, oD 4611686018427387904, oV, oD 4611686018427387904, oV, oI 1] [] _
    refine XS.iinc X119.here hx rfl (hb hby d1_72) rfl (l' := #[.val (.ref r0), .val (.ref r1), .val (.ref r2), .val (.ref r3), .val (.int 1), .val (.int 3), .val (.double 4611686018427387904), .second, .val (.double 4611686018427387904), .second, .val (.int 2)]) rfl ?_
    show own_S p e below T119 m 75 #[oR r0, oR r1, oR r2, oR r3, oI 1, oI 3, oD 4611686018427387904, oV, oD 4611686018427387904, oV, oI 2] [] _
    refine XS.goto X119.here hx rfl (pc0 := 75) (pc' := 41) rfl (hb hby d1_75) (by decide) (by decide) ?_
    show own_S p e below T119 m 41 #[oR r0, oR r1, oR r2, oR r3, oI 1, oI 3, oD 4611686018427387904, oV, oD 4611686018427387904, oV, oI 2] [] _
    refine XS.iload X119.here hx rfl (hb hby d1_41) rfl ?_
    show own_S p e below T119 m 43 #[oR r0, oR r1, oR r2, oR r3, oI 1, oI 3, oD 4611686018427387904, oV, oD 4611686018427387904, oV, oI 2] [(.int 2)] _
    refine XS.iload X119.here hx rfl (hb hby d1_43) rfl ?_
    show own_S p e below T119 m 45 #[oR r0, oR r1, oR r2, oR r3, oI 1, oI 3, oD 4611686018427387904, oV, oD 4611686018427387904, oV, oI 2] [(.int 3), (.int 2)] _
    refine XS.icmpNo X119.here hx rfl (hb hby d1_45) rfl (tlt (by decide : (2 : Int32) < (3 : Int32))).2.1 ?_
    show own_S p e below T119 m 48 #[oR r0, oR r1, oR r2, oR r3, oI 1, oI 3, oD 4611686018427387904, oV, oD 4611686018427387904, oV, oI 2] [] _
    refine XS.dload X119.here hx rfl (hb hby d1_48) rfl ?_
    show own_S p e below T119 m 50 #[oR r0, oR r1, oR r2, oR r3, oI 1, oI 3, oD 4611686018427387904, oV, oD 4611686018427387904, oV, oI 2] [(.double 4611686018427387904)] _
    refine XS.aloadN X119.here hx rfl (hb hby d1_50) rfl rfl ?_
    show own_S p e below T119 m 51 #[oR r0, oR r1, oR r2, oR r3, oI 1, oI 3, oD 4611686018427387904, oV, oD 4611686018427387904, oV, oI 2] [(.ref r2), (.double 4611686018427387904)] _
    refine XS.iload X119.here hx rfl (hb hby d1_51) rfl ?_
    show own_S p e below T119 m 53 #[oR r0, oR r1, oR r2, oR r3, oI 1, oI 3, oD 4611686018427387904, oV, oD 4611686018427387904, oV, oI 2] [(.int 2), (.ref r2), (.double 4611686018427387904)] _
    refine X119.daload hx (j := (2 : Int32)) (v := (.double 4613937818241073152)) (by rw [e119]; exact Ar127.1) (State.isArrayOf_alike hZ.alike Ar127.2.1) Ar127.2.2 hin127 hat127 (g := (mkF m 53 #[.val (.ref r0), .val (.ref r1), .val (.ref r2), .val (.ref r3), .val (.int 1), .val (.int 3), .val (.double 4611686018427387904), .second, .val (.double 4611686018427387904), .second, .val (.int 2)] [(.int 2), (.ref r2), (.double 4611686018427387904)])) rfl rfl (hb hby d1_53) _ ?_
    show own_S p e below T119 m 54 #[oR r0, oR r1, oR r2, oR r3, oI 1, oI 3, oD 4611686018427387904, oV, oD 4611686018427387904, oV, oI 2] [(.double 4613937818241073152), (.double 4611686018427387904)] _
    refine XS.aloadN X119.here hx rfl (hb hby d1_54) rfl rfl ?_
    show own_S p e below T119 m 55 #[oR r0, oR r1, oR r2, oR r3, oI 1, oI 3, oD 4611686018427387904, oV, oD 4611686018427387904, oV, oI 2] [(.ref r3), (.double 4613937818241073152), (.double 4611686018427387904)] _
    refine XS.iload X119.here hx rfl (hb hby d1_55) rfl ?_
    show own_S p e below T119 m 57 #[oR r0, oR r1, oR r2, oR r3, oI 1, oI 3, oD 4611686018427387904, oV, oD 4611686018427387904, oV, oI 2] [(.int 2), (.ref r3), (.double 4613937818241073152), (.double 4611686018427387904)] _
    refine X119.iaload hx (j := (2 : Int32)) (v := (.int 1)) (by rw [e119]; exact Ar128.1) (State.isArrayOf_alike hZ.alike Ar128.2.1) Ar128.2.2 hin128 hat128 (g := (mkF m 57 #[.val (.ref r0), .val (.ref r1), .val (.ref r2), .val (.ref r3), .val (.int 1), .val (.int 3), .val (.double 4611686018427387904), .second, .val (.double 4611686018427387904), .second, .val (.int 2)] [(.int 2), (.ref r3), (.double 4613937818241073152), (.double 4611686018427387904)])) rfl rfl (hb hby d1_57) _ ?_
    show own_S p e below T119 m 58 #[oR r0, oR r1, oR r2, oR r3, oI 1, oI 3, oD 4611686018427387904, oV, oD 4611686018427387904, oV, oI 2] [(.int 1), (.double 4613937818241073152), (.double 4611686018427387904)] _
    refine XS.i2dS X119.here hx rfl (v := (4607182418800017408 : UInt64)) (hb hby d1_58) rfl (by decide +kernel) ?_
    show own_S p e below T119 m 59 #[oR r0, oR r1, oR r2, oR r3, oI 1, oI 3, oD 4611686018427387904, oV, oD 4611686018427387904, oV, oI 2] [(.double 4607182418800017408), (.double 4613937818241073152), (.double 4611686018427387904)] _
    refine XS.ddivS X119.here hx rfl (v := (4613937818241073152 : UInt64)) (hb hby d1_59) rfl (own_nnl (by decide +kernel : FP.ddiv (4613937818241073152 : UInt64) (4607182418800017408 : UInt64) = (4613937818241073152 : UInt64)) (by unfold NoNaN64; decide)) (by decide +kernel) ?_
    show own_S p e below T119 m 60 #[oR r0, oR r1, oR r2, oR r3, oI 1, oI 3, oD 4611686018427387904, oV, oD 4611686018427387904, oV, oI 2] [(.double 4613937818241073152), (.double 4611686018427387904)] _
    refine XS.daddS X119.here hx rfl (v := (4617315517961601024 : UInt64)) (hb hby d1_60) rfl (own_nnl (by decide +kernel : FP.dadd (4611686018427387904 : UInt64) (4613937818241073152 : UInt64) = (4617315517961601024 : UInt64)) (by unfold NoNaN64; decide)) (by decide +kernel) ?_
    show own_S p e below T119 m 61 #[oR r0, oR r1, oR r2, oR r3, oI 1, oI 3, oD 4611686018427387904, oV, oD 4611686018427387904, oV, oI 2] [(.double 4617315517961601024)] _
    refine XS.dstore X119.here hx rfl (hb hby d1_61) rfl (l' := #[.val (.ref r0), .val (.ref r1), .val (.ref r2), .val (.ref r3), .val (.int 1), .val (.int 3), .val (.double 4617315517961601024), .second, .val (.double 4611686018427387904), .second, .val (.int 2)]) rfl ?_
    show own_S p e below T119 m 63 #[oR r0, oR r1, oR r2, oR r3, oI 1, oI 3, oD 4617315517961601024, oV, oD 4611686018427387904, oV, oI 2] [] _
    refine XS.dload X119.here hx rfl (hb hby d1_63) rfl ?_
    show own_S p e below T119 m 65 #[oR r0, oR r1, oR r2, oR r3, oI 1, oI 3, oD 4617315517961601024, oV, oD 4611686018427387904, oV, oI 2] [(.double 4611686018427387904)] _
    refine XS.aloadN X119.here hx rfl (hb hby d1_65) rfl rfl ?_
    show own_S p e below T119 m 66 #[oR r0, oR r1, oR r2, oR r3, oI 1, oI 3, oD 4617315517961601024, oV, oD 4611686018427387904, oV, oI 2] [(.ref r2), (.double 4611686018427387904)] _
    refine XS.iload X119.here hx rfl (hb hby d1_66) rfl ?_
    show own_S p e below T119 m 68 #[oR r0, oR r1, oR r2, oR r3, oI 1, oI 3, oD 4617315517961601024, oV, oD 4611686018427387904, oV, oI 2] [(.int 2), (.ref r2), (.double 4611686018427387904)] _
    refine X119.daload hx (j := (2 : Int32)) (v := (.double 4613937818241073152)) (by rw [e119]; exact Ar129.1) (State.isArrayOf_alike hZ.alike Ar129.2.1) Ar129.2.2 hin129 hat129 (g := (mkF m 68 #[.val (.ref r0), .val (.ref r1), .val (.ref r2), .val (.ref r3), .val (.int 1), .val (.int 3), .val (.double 4617315517961601024), .second, .val (.double 4611686018427387904), .second, .val (.int 2)] [(.int 2), (.ref r2), (.double 4611686018427387904)])) rfl rfl (hb hby d1_68) _ ?_
    show own_S p e below T119 m 69 #[oR r0, oR r1, oR r2, oR r3, oI 1, oI 3, oD 4617315517961601024, oV, oD 4611686018427387904, oV, oI 2] [(.double 4613937818241073152), (.double 4611686018427387904)] _
    refine XS.daddS X119.here hx rfl (v := (4617315517961601024 : UInt64)) (hb hby d1_69) rfl (own_nnl (by decide +kernel : FP.dadd (4611686018427387904 : UInt64) (4613937818241073152 : UInt64) = (4617315517961601024 : UInt64)) (by unfold NoNaN64; decide)) (by decide +kernel) ?_
    show own_S p e below T119 m 70 #[oR r0, oR r1, oR r2, oR r3, oI 1, oI 3, oD 4617315517961601024, oV, oD 4611686018427387904, oV, oI 2] [(.double 4617315517961601024)] _
    refine XS.dstore X119.here hx rfl (hb hby d1_70) rfl (l' := #[.val (.ref r0), .val (.ref r1), .val (.ref r2), .val (.ref r3), .val (.int 1), .val (.int 3), .val (.double 4617315517961601024), .second, .val (.double 4617315517961601024), .second, .val (.int 2)]) rfl ?_
    show own_S p e below T119 m 72 #[oR r0, oR r1, oR r2, oR r3, oI 1, oI 3, oD 4617315517961601024, oV, oD 4617315517961601024, oV, oI 2] [] _
    refine XS.iinc X119.here hx rfl (hb hby d1_72) rfl (l' := #[.val (.ref r0), .val (.ref r1), .val (.ref r2), .val (.ref r3), .val (.int 1), .val (.int 3), .val (.double 4617315517961601024), .second, .val (.double 4617315517961601024), .second, .val (.int 3)]) rfl ?_
    show own_S p e below T119 m 75 #[oR r0, oR r1, oR r2, oR r3, oI 1, oI 3, oD 4617315517961601024, oV, oD 4617315517961601024, oV, oI 3] [] _
    refine XS.goto X119.here hx rfl (pc0 := 75) (pc' := 41) rfl (hb hby d1_75) (by decide) (by decide) ?_
    show own_S p e below T119 m 41 #[oR r0, oR r1, oR r2, oR r3, oI 1, oI 3, oD 4617315517961601024, oV, oD 4617315517961601024, oV, oI 3] [] _
    refine XS.iload X119.here hx rfl (hb hby d1_41) rfl ?_
    show own_S p e below T119 m 43 #[oR r0, oR r1, oR r2, oR r3, oI 1, oI 3, oD 4617315517961601024, oV, oD 4617315517961601024, oV, oI 3] [(.int 3)] _
    refine XS.iload X119.here hx rfl (hb hby d1_43) rfl ?_
    show own_S p e below T119 m 45 #[oR r0, oR r1, oR r2, oR r3, oI 1, oI 3, oD 4617315517961601024, oV, oD 4617315517961601024, oV, oI 3] [(.int 3), (.int 3)] _
    refine XS.icmpYes X119.here hx rfl (pc0 := 45) (pc' := 78) rfl (hb hby d1_45) rfl (flt (by decide : ¬ ((3 : Int32) < (3 : Int32)))).2.1 (by decide) (by decide) ?_
    show own_S p e below T119 m 78 #[oR r0, oR r1, oR r2, oR r3, oI 1, oI 3, oD 4617315517961601024, oV, oD 4617315517961601024, oV, oI 3] [] _
    refine XS.aloadN X119.here hx rfl (hb hby d1_78) rfl rfl ?_
    show own_S p e below T119 m 79 #[oR r0, oR r1, oR r2, oR r3, oI 1, oI 3, oD 4617315517961601024, oV, oD 4617315517961601024, oV, oI 3] [(.ref r0)] _
    refine XS.dload X119.here hx rfl (hb hby d1_79) rfl ?_
    show own_S p e below T119 m 81 #[oR r0, oR r1, oR r2, oR r3, oI 1, oI 3, oD 4617315517961601024, oV, oD 4617315517961601024, oV, oI 3] [(.double 4617315517961601024), (.ref r0)] _
    refine st132 _ ?_
    show own_S p e below T132 m 84 #[oR r0, oR r1, oR r2, oR r3, oI 1, oI 3, oD 4617315517961601024, oV, oD 4617315517961601024, oV, oI 3] [] _
    refine XS.aloadN X132.here hx rfl (hb hby d1_84) rfl rfl ?_
    show own_S p e below T132 m 85 #[oR r0, oR r1, oR r2, oR r3, oI 1, oI 3, oD 4617315517961601024, oV, oD 4617315517961601024, oV, oI 3] [(.ref r0)] _
    refine XS.dload X132.here hx rfl (hb hby d1_85) rfl ?_
    show own_S p e below T132 m 87 #[oR r0, oR r1, oR r2, oR r3, oI 1, oI 3, oD 4617315517961601024, oV, oD 4617315517961601024, oV, oI 3] [(.double 4617315517961601024), (.ref r0)] _
    refine st136 _ ?_
    show own_S p e below T136 m 90 #[oR r0, oR r1, oR r2, oR r3, oI 1, oI 3, oD 4617315517961601024, oV, oD 4617315517961601024, oV, oI 3] [] _
    exact X136.returnOut hx Bd.returns (hb hby d1_90) hr
  · show Q1_1_3 Z r0 r1 r2 r3 u0 u1 u2 u3 u4 u5 u6 kd ko h0 n0 _ T136.heap _
    rw [e136]
    exact ⟨rfl, N136, KK138, ((Fc131.wr W132).wr W136), ((((((Fw102.other W106 (Or.inr (sn21 hw))).other W110 (Or.inr (sn22 hw))).other W115 (Or.inr (sn23 hw))).other W119 (Or.inr (sn24 hw))).other W132 (Or.inr (sn25 hw))).other W136 (Or.inr (sn26 hw))), (((Fw115.other W119 (Or.inr (sn27 hw))).other W132 (Or.inr (sn28 hw))).other W136 (Or.inr (sn29 hw))), ((Fw119.other W132 (Or.inr (sn30 hw))).other W136 (Or.inr (sn31 hw)))⟩
theorem ef1_1_4 (m : MethodId) (r0 : Addr) (r1 : Addr) (r2 : Addr) (r3 : Addr) : entryFrame m #[(.ref r0), (.ref r1), (.ref r2), (.ref r3), (.int 1), (.int 4)] 11 = mkF m 0 #[.val (.ref r0), .val (.ref r1), .val (.ref r2), .val (.ref r3), .val (.int 1), .val (.int 4), .unset, .unset, .unset, .unset, .unset] [] := by first | (simp [entryFrame, mkF, argsToLocals, Value.category]; done) | rfl
def Q1_1_4 (Z : State) (r0 : Addr) (r1 : Addr) (r2 : Addr) (r3 : Addr) (u0 : Value) (u1 : Value) (u2 : Value) (u3 : Value) (u4 : Value) (u5 : Value) (u6 : Value) (kd : ClassId) (ko : ClassId) (h0 : Heap) (n0 : Nat) (v : Option Value) (h : Heap) (L : List Loc) : Prop := v = none ∧ Fr n0 L ∧ (Keep h0 h [r0]) ∧ (Exa Z h r0 "com/example/buurt/buurt/model/CrossTermFrequencies") ∧ (Fld Z h r0 "com/example/buurt/buurt/model/CrossTermFrequencies" "docs" "[I" (.ref r1)) ∧ (Fld Z h r0 "com/example/buurt/buurt/model/CrossTermFrequencies" "from" "I" (.int 1)) ∧ (Fld Z h r0 "com/example/buurt/buurt/model/CrossTermFrequencies" "to" "I" (.int 4))
set_option maxRecDepth 65536 in
set_option maxHeartbeats 40000000 in
theorem rm1_1_4 (l : Launch) (Z : State) (a0 : Array Value) (hw : ∀ d ∈ tables_1, d.before a0 Z = true) (ws : List Jvm.Cond) (r0 : Addr) (r1 : Addr) (r2 : Addr) (r3 : Addr) (u0 : Value) (u1 : Value) (u2 : Value) (u3 : Value) (u4 : Value) (u5 : Value) (u6 : Value) (kd : ClassId) (ko : ClassId) (h0 : Heap) (n0 : Nat) (Z0 : n0 ≤ h0.size) (F_docs_r0 : Fld Z h0 r0 "com/example/buurt/buurt/model/CrossTermFrequencies" "docs" "[I" u0) (F_tfs_r0 : Fld Z h0 r0 "com/example/buurt/buurt/model/CrossTermFrequencies" "tfs" "[D" u1) (F_occurs_r0 : Fld Z h0 r0 "com/example/buurt/buurt/model/CrossTermFrequencies" "occurs" "[I" u2) (F_from_r0 : Fld Z h0 r0 "com/example/buurt/buurt/model/CrossTermFrequencies" "from" "I" u3) (F_to_r0 : Fld Z h0 r0 "com/example/buurt/buurt/model/CrossTermFrequencies" "to" "I" u4) (F_documentFrequency_r0 : Fld Z h0 r0 "com/example/buurt/buurt/model/CrossTermFrequencies" "documentFrequency" "D" u5) (F_collectionFrequency_r0 : Fld Z h0 r0 "com/example/buurt/buurt/model/CrossTermFrequencies" "collectionFrequency" "D" u6) (E_r0 : Exa Z h0 r0 "com/example/buurt/buurt/model/CrossTermFrequencies") (g_r0 : n0 ≤ r0) (V_r2 : Arv Z h0 r2 kd .double (4 : Int32) [(.double 4607182418800017408), (.double 4611686018427387904), (.double 4613937818241073152), (.double 4616189618054758400)] (.double 0)) (V_r3 : Arv Z h0 r3 ko .int (4 : Int32) [(.int 1), (.int 1), (.int 1), (.int 1)] (.int 0)) (ne_r2_r0 : r2 ≠ r0) (ne_r3_r0 : r3 ≠ r0) :
    MetFree l (⟨"com/example/buurt/buurt/model/CrossTermFrequencies", "<init>", "([I[D[III)V"⟩ : MethodName) (head1 (Jvm.Cond.code (⟨"com/example/buurt/buurt/model/CrossTermFrequencies", "<init>", "([I[D[III)V"⟩ : MethodName) prog_27_method_1_code 11 none :: ws) ({ frames := 1, cells := 0, slots := 0, locals := 12 } : Room)) (fun a U => a = #[(.ref r0), (.ref r1), (.ref r2), (.ref r3), (.int 1), (.int 4)] ∧ Z.Warmed39 U.vm ∧ U.heap = h0) (fun _ _ _ _ _ => True) (fun _ U o U' => ∃ v L, o = .returned v ∧ Q1_1_4 Z r0 r1 r2 r3 u0 u1 u2 u3 u4 u5 u6 kd ko h0 n0 v U'.heap L ∧ FrameEnd U o U' L ({ frames := 1, cells := 0, slots := 0, locals := 12 } : Room).cells ({ frames := 1, cells := 0, slots := 0, locals := 12 } : Room).slots) := by
  refine MetFree.of_bodySF (plainFor_of_name pn0) hisR ?_
  intro p e s m args below meth c s₁ Bd hml0 hP hK
  obtain ⟨rfl, hZ, hh⟩ := hP
  have hx := Bd.exec
  have hby := Bd.bytes
  have hml : c.maxLocals = 11 := hml0
  have hown : s.vm.findClass "com/example/buurt/buurt/model/CrossTermFrequencies" = some m.cls := findClass_of_methodNamed Bd.named
  have hnm := (name_of_methodNamed Bd.named Bd.method).1
  have X0 : Stand p l e ({ frames := 1, cells := 0, slots := 0, locals := 12 } : Room) s m #[(.ref r0), (.ref r1), (.ref r2), (.ref r3), (.int 1), (.int 4)] below meth c s₁ [] 0 0 := Stand.of_body Bd
  have e0 : s₁.heap = h0 := by rw [← hh, Bd.state]; rfl
  have N0 := Fr.nil n0
  have pre0 : ∀ t, Steps p.tables e below (s₁.setTop (mkF m 0 #[.val (.ref r0), .val (.ref r1), .val (.ref r2), .val (.ref r3), .val (.int 1), .val (.int 4), .unset, .unset, .unset, .unset, .unset] [])) t → Steps p.tables e below (s₁.setTop (entryFrame m #[(.ref r0), (.ref r1), (.ref r2), (.ref r3), (.int 1), (.int 4)] 11)) t := fun t k => castTop (ef1_1_4 m r0 r1 r2 r3) k
  obtain ⟨T101, X101, e101, st101⟩ := initO X0 hx hZ hown (own_w hw 12 rfl) (own_w hw 13 rfl) (own_w hw 14 rfl) e0 (g := (mkF m 1 #[.val (.ref r0), .val (.ref r1), .val (.ref r2), .val (.ref r3), .val (.int 1), .val (.int 4), .unset, .unset, .unset, .unset, .unset] [(.ref r0)])) rfl (by rw [hml]; rfl) rfl (hb hby d1_1) (by decide) (W := 0) (by show 2 * 0 + _ ≤ _; exact Nat.le_of_eq rfl) (by decide)
  obtain ⟨T102, h102, X102, e102, W102, st102⟩ := putF X101 hx hZ hown (host := "") (Or.inl (own_w hw 15 rfl)) Via.refl e101 F_docs_r0 E_r0 (Or.inr ⟨(own_w hw 16 rfl), rfl, hnm⟩) (own_w hw 7 rfl) (ty := (.array .int)) (by decide) rfl rfl (g := (mkF m 6 #[.val (.ref r0), .val (.ref r1), .val (.ref r2), .val (.ref r3), .val (.int 1), .val (.int 4), .unset, .unset, .unset, .unset, .unset] [(.ref r1), (.ref r0)])) rfl rfl (hb hby d1_6)
  have Fw102 := F_docs_r0.same W102
  have N102 := Fr.snoc X102 N0 g_r0
  have ZZ103 : n0 ≤ h102.size := Nat.le_trans Z0 (Nat.le_of_eq W102.size.symm)
  have KK104 : Keep h0 h102 [r0] := (Keep.refl h0 [r0]).wr W102 (Or.inl (List.mem_of_getElem? (i := 0) rfl))
  have Fc105 := (F_tfs_r0.other W102 (Or.inr (sn0 hw)))
  obtain ⟨T106, h106, X106, e106, W106, st106⟩ := putF X102 hx hZ hown (host := "") (Or.inl (own_w hw 17 rfl)) Via.refl e102 Fc105 (E_r0.wr W102) (Or.inr ⟨(own_w hw 18 rfl), rfl, hnm⟩) (own_w hw 7 rfl) (ty := (.array .double)) (by decide) rfl rfl (g := (mkF m 11 #[.val (.ref r0), .val (.ref r1), .val (.ref r2), .val (.ref r3), .val (.int 1), .val (.int 4), .unset, .unset, .unset, .unset, .unset] [(.ref r2), (.ref r0)])) rfl rfl (hb hby d1_11)
  have Fw106 := Fc105.same W106
  have N106 := Fr.snoc X106 N102 g_r0
  have ZZ107 : n0 ≤ h106.size := Nat.le_trans ZZ103 (Nat.le_of_eq W106.size.symm)
  have KK108 : Keep h0 h106 [r0] := KK104.wr W106 (Or.inl (List.mem_of_getElem? (i := 0) rfl))
  have Fc109 := ((F_occurs_r0.other W102 (Or.inr (sn1 hw))).other W106 (Or.inr (sn2 hw)))
  obtain ⟨T110, h110, X110, e110, W110, st110⟩ := putF X106 hx hZ hown (host := "") (Or.inl (own_w hw 19 rfl)) Via.refl e106 Fc109 ((E_r0.wr W102).wr W106) (Or.inr ⟨(own_w hw 20 rfl), rfl, hnm⟩) (own_w hw 7 rfl) (ty := (.array .int)) (by decide) rfl rfl (g := (mkF m 16 #[.val (.ref r0), .val (.ref r1), .val (.ref r2), .val (.ref r3), .val (.int 1), .val (.int 4), .unset, .unset, .unset, .unset, .unset] [(.ref r3), (.ref r0)])) rfl rfl (hb hby d1_16)
  have Fw110 := Fc109.same W110
  have N110 := Fr.snoc X110 N106 g_r0
  have ZZ111 : n0 ≤ h110.size := Nat.le_trans ZZ107 (Nat.le_of_eq W110.size.symm)
  have KK112 : Keep h0 h110 [r0] := KK108.wr W110 (Or.inl (List.mem_of_getElem? (i := 0) rfl))
  have Fc113 := (((F_from_r0.other W102 (Or.inr (sn3 hw))).other W106 (Or.inr (sn4 hw))).other W110 (Or.inr (sn5 hw)))
  have Fc114 := (((E_r0.wr W102).wr W106).wr W110)
  obtain ⟨T115, h115, X115, e115, W115, st115⟩ := putF X110 hx hZ hown (host := "") (Or.inl (own_w hw 21 rfl)) Via.refl e110 Fc113 Fc114 (Or.inr ⟨(own_w hw 22 rfl), rfl, hnm⟩) (own_w hw 7 rfl) (ty := .int) (by decide) rfl rfl (g := (mkF m 22 #[.val (.ref r0), .val (.ref r1), .val (.ref r2), .val (.ref r3), .val (.int 1), .val (.int 4), .unset, .unset, .unset, .unset, .unset] [(.int 1), (.ref r0)])) rfl rfl (hb hby d1_22)
  have Fw115 := Fc113.same W115
  have N115 := Fr.snoc X115 N110 g_r0
  have ZZ116 : n0 ≤ h115.size := Nat.le_trans ZZ111 (Nat.le_of_eq W115.size.symm)
  have KK117 : Keep h0 h115 [r0] := KK112.wr W115 (Or.inl (List.mem_of_getElem? (i := 0) rfl))
  have Fc118 := ((((F_to_r0.other W102 (Or.inr (sn6 hw))).other W106 (Or.inr (sn7 hw))).other W110 (Or.inr (sn8 hw))).other W115 (Or.inr (sn9 hw)))
  obtain ⟨T119, h119, X119, e119, W119, st119⟩ := putF X115 hx hZ hown (host := "") (Or.inl (own_w hw 23 rfl)) Via.refl e115 Fc118 (Fc114.wr W115) (Or.inr ⟨(own_w hw 24 rfl), rfl, hnm⟩) (own_w hw 7 rfl) (ty := .int) (by decide) rfl rfl (g := (mkF m 28 #[.val (.ref r0), .val (.ref r1), .val (.ref r2), .val (.ref r3), .val (.int 1), .val (.int 4), .unset, .unset, .unset, .unset, .unset] [(.int 4), (.ref r0)])) rfl rfl (hb hby d1_28)
  have Fw119 := Fc118.same W119
  have N119 := Fr.snoc X119 N115 g_r0
  have ZZ120 : n0 ≤ h119.size := Nat.le_trans ZZ116 (Nat.le_of_eq W119.size.symm)
  have KK121 : Keep h0 h119 [r0] := KK117.wr W119 (Or.inl (List.mem_of_getElem? (i := 0) rfl))
  have Fc122 := (((((V_r2.other W102 ne_r2_r0).other W106 ne_r2_r0).other W110 ne_r2_r0).other W115 ne_r2_r0).other W119 ne_r2_r0)
  obtain ⟨cl123, Ar123, qk123, Sz123, Nz123, Hh123, Gg123⟩ := id Fc122
  have hin123 : ¬ ((1 : Int32) < 0 ∨ cl123.slots.size ≤ ((1 : Int32)).toNatClampNeg) := inb_of Sz123 ⟨by decide, by decide⟩
  have hat123 : cl123.slots[((1 : Int32)).toNatClampNeg]? = some (.double 4611686018427387904) := Has.at Hh123 hin123 rfl
  have Fc124 := (((((V_r3.other W102 ne_r3_r0).other W106 ne_r3_r0).other W110 ne_r3_r0).other W115 ne_r3_r0).other W119 ne_r3_r0)
  obtain ⟨cl125, Ar125, qk125, Sz125, Nz125, Hh125, Gg125⟩ := id Fc124
  have hin125 : ¬ ((1 : Int32) < 0 ∨ cl125.slots.size ≤ ((1 : Int32)).toNatClampNeg) := inb_of Sz125 ⟨by decide, by decide⟩
  have hat125 : cl125.slots[((1 : Int32)).toNatClampNeg]? = some (.int 1) := Has.at Hh125 hin125 rfl
  obtain ⟨cl126, Ar126, qk126, Sz126, Nz126, Hh126, Gg126⟩ := id Fc122
  have hin126 : ¬ ((1 : Int32) < 0 ∨ cl126.slots.size ≤ ((1 : Int32)).toNatClampNeg) := inb_of Sz126 ⟨by decide, by decide⟩
  have hat126 : cl126.slots[((1 : Int32)).toNatClampNeg]? = some (.double 4611686018427387904) := Has.at Hh126 hin126 rfl
  obtain ⟨cl127, Ar127, qk127, Sz127, Nz127, Hh127, Gg127⟩ := id Fc122
  have hin127 : ¬ ((2 : Int32) < 0 ∨ cl127.slots.size ≤ ((2 : Int32)).toNatClampNeg) := inb_of Sz127 ⟨by decide, by decide⟩
  have hat127 : cl127.slots[((2 : Int32)).toNatClampNeg]? = some (.double 4613937818241073152) := Has.at Hh127 hin127 rfl
  obtain ⟨cl128, Ar128, qk128, Sz128, Nz128, Hh128, Gg128⟩ := id Fc124
  have hin128 : ¬ ((2 : Int32) < 0 ∨ cl128.slots.size ≤ ((2 : Int32)).toNatClampNeg) := inb_of Sz128 ⟨by decide, by decide⟩
  have hat128 : cl128.slots[((2 : Int32)).toNatClampNeg]? = some (.int 1) := Has.at Hh128 hin128 rfl
  obtain ⟨cl129, Ar129, qk129, Sz129, Nz129, Hh129, Gg129⟩ := id Fc122
  have hin129 : ¬ ((2 : Int32) < 0 ∨ cl129.slots.size ≤ ((2 : Int32)).toNatClampNeg) := inb_of Sz129 ⟨by decide, by decide⟩
  have hat129 : cl129.slots[((2 : Int32)).toNatClampNeg]? = some (.double 4613937818241073152) := Has.at Hh129 hin129 rfl
  obtain ⟨cl130, Ar130, qk130, Sz130, Nz130, Hh130, Gg130⟩ := id Fc122
  have hin130 : ¬ ((3 : Int32) < 0 ∨ cl130.slots.size ≤ ((3 : Int32)).toNatClampNeg) := inb_of Sz130 ⟨by decide, by decide⟩
  have hat130 : cl130.slots[((3 : Int32)).toNatClampNeg]? = some (.double 4616189618054758400) := Has.at Hh130 hin130 rfl
  obtain ⟨cl131, Ar131, qk131, Sz131, Nz131, Hh131, Gg131⟩ := id Fc124
  have hin131 : ¬ ((3 : Int32) < 0 ∨ cl131.slots.size ≤ ((3 : Int32)).toNatClampNeg) := inb_of Sz131 ⟨by decide, by decide⟩
  have hat131 : cl131.slots[((3 : Int32)).toNatClampNeg]? = some (.int 1) := Has.at Hh131 hin131 rfl
  obtain ⟨cl132, Ar132, qk132, Sz132, Nz132, Hh132, Gg132⟩ := id Fc122
  have hin132 : ¬ ((3 : Int32) < 0 ∨ cl132.slots.size ≤ ((3 : Int32)).toNatClampNeg) := inb_of Sz132 ⟨by decide, by decide⟩
  have hat132 : cl132.slots[((3 : Int32)).toNatClampNeg]? = some (.double 4616189618054758400) := Has.at Hh132 hin132 rfl
  have Fc133 := (((((F_documentFrequency_r0.other W102 (Or.inr (sn10 hw))).other W106 (Or.inr (sn11 hw))).other W110 (Or.inr (sn12 hw))).other W115 (Or.inr (sn13 hw))).other W119 (Or.inr (sn14 hw)))
  have Fc134 := ((Fc114.wr W115).wr W119)
  obtain ⟨T135, h135, X135, e135, W135, st135⟩ := putF X119 hx hZ hown (host := "") (Or.inl (own_w hw 25 rfl)) Via.refl e119 Fc133 Fc134 (Or.inr ⟨(own_w hw 26 rfl), rfl, hnm⟩) (own_w hw 7 rfl) (ty := .double) (by decide) rfl rfl (g := (mkF m 81 #[.val (.ref r0), .val (.ref r1), .val (.ref r2), .val (.ref r3), .val (.int 1), .val (.int 4), .val (.double 4621256167635550208), .second, .val (.double 4621256167635550208), .second, .val (.int 4)] [(.double 4621256167635550208), (.ref r0)])) rfl rfl (hb hby d1_81)
  have Fw135 := Fc133.same W135
  have N135 := Fr.snoc X135 N119 g_r0
  have ZZ136 : n0 ≤ h135.size := Nat.le_trans ZZ120 (Nat.le_of_eq W135.size.symm)
  have KK137 : Keep h0 h135 [r0] := KK121.wr W135 (Or.inl (List.mem_of_getElem? (i := 0) rfl))
  have Fc138 := ((((((F_collectionFrequency_r0.other W102 (Or.inr (sn15 hw))).other W106 (Or.inr (sn16 hw))).other W110 (Or.inr (sn17 hw))).other W115 (Or.inr (sn18 hw))).other W119 (Or.inr (sn19 hw))).other W135 (Or.inr (sn20 hw)))
  obtain ⟨T139, h139, X139, e139, W139, st139⟩ := putF X135 hx hZ hown (host := "") (Or.inl (own_w hw 27 rfl)) Via.refl e135 Fc138 (Fc134.wr W135) (Or.inr ⟨(own_w hw 28 rfl), rfl, hnm⟩) (own_w hw 7 rfl) (ty := .double) (by decide) rfl rfl (g := (mkF m 87 #[.val (.ref r0), .val (.ref r1), .val (.ref r2), .val (.ref r3), .val (.int 1), .val (.int 4), .val (.double 4621256167635550208), .second, .val (.double 4621256167635550208), .second, .val (.int 4)] [(.double 4621256167635550208), (.ref r0)])) rfl rfl (hb hby d1_87)
  have Fw139 := Fc138.same W139
  have N139 := Fr.snoc X139 N135 g_r0
  have ZZ140 : n0 ≤ h139.size := Nat.le_trans ZZ136 (Nat.le_of_eq W139.size.symm)
  have KK141 : Keep h0 h139 [r0] := KK137.wr W139 (Or.inl (List.mem_of_getElem? (i := 0) rfl))
  obtain ⟨fs, hr, hrun, hended, hW, hsame⟩ := X139.leave (v := none) (fun _ => rfl)
  refine ⟨_, _, pre0 _ ?_, hrun, hended, _, _, rfl, ?_, ⟨_, rfl⟩, hW, hsame.mono (by decide) (by decide)⟩
  · show own_S p e below s₁ m 0 #[oR r0, oR r1, oR r2, oR r3, oI 1, oI 4, oU, oU, oU, oU, oU] [] _
    refine XS.aloadN X0.here hx rfl (hb hby d1_0) rfl rfl ?_
    show own_S p e below s₁ m 1 #[oR r0, oR r1, oR r2, oR r3, oI 1, oI 4, oU, oU, oU, oU, oU] [(.ref r0)] _
    refine st101 _ ?_
    show own_S p e below T101 m 4 #[oR r0, oR r1, oR r2, oR r3, oI 1, oI 4, oU, oU, oU, oU, oU] [] _
    refine XS.aloadN X101.here hx rfl (hb hby d1_4) rfl rfl ?_
    show own_S p e below T101 m 5 #[oR r0, oR r1, oR r2, oR r3, oI 1, oI 4, oU, oU, oU, oU, oU] [(.ref r0)] _
    refine XS.aloadN X101.here hx rfl (hb hby d1_5) rfl rfl ?_
    show own_S p e below T101 m 6 #[oR r0, oR r1, oR r2, oR r3, oI 1, oI 4, oU, oU, oU, oU, oU] [(.ref r1), (.ref r0)] _
    refine st102 _ ?_
    show own_S p e below T102 m 9 #[oR r0, oR r1, oR r2, oR r3, oI 1, oI 4, oU, oU, oU, oU, oU] [] _
    refine XS.aloadN X102.here hx rfl (hb hby d1_9) rfl rfl ?_
    show own_S p e below T102 m 10 #[oR r0, oR r1, oR r2, oR r3, oI 1, oI 4, oU, oU, oU, oU, oU] [(.ref r0)] _
    refine XS.aloadN X102.here hx rfl (hb hby d1_10) rfl rfl ?_
    show own_S p e below T102 m 11 #[oR r0, oR r1, oR r2, oR r3, oI 1, oI 4, oU, oU, oU, oU, oU] [(.ref r2), (.ref r0)] _
    refine st106 _ ?_
    show own_S p e below T106 m 14 #[oR r0, oR r1, oR r2, oR r3, oI 1, oI 4, oU, oU, oU, oU, oU] [] _
    refine XS.aloadN X106.here hx rfl (hb hby d1_14) rfl rfl ?_
    show own_S p e below T106 m 15 #[oR r0, oR r1, oR r2, oR r3, oI 1, oI 4, oU, oU, oU, oU, oU] [(.ref r0)] _
    refine XS.aloadN X106.here hx rfl (hb hby d1_15) rfl rfl ?_
    show own_S p e below T106 m 16 #[oR r0, oR r1, oR r2, oR r3, oI 1, oI 4, oU, oU, oU, oU, oU] [(.ref r3), (.ref r0)] _
    refine st110 _ ?_
    show own_S p e below T110 m 19 #[oR r0, oR r1, oR r2, oR r3, oI 1, oI 4, oU, oU, oU, oU, oU] [] _
    refine XS.aloadN X110.here hx rfl (hb hby d1_19) rfl rfl ?_
    show own_S p e below T110 m 20 #[oR r0, oR r1, oR r2, oR r3, oI 1, oI 4, oU, oU, oU, oU, oU] [(.ref r0)] _
    refine XS.iload X110.here hx rfl (hb hby d1_20) rfl ?_
    show own_S p e below T110 m 22 #[oR r0, oR r1, oR r2, oR r3, oI 1, oI 4, oU, oU, oU, oU, oU] [(.int 1), (.ref r0)] _
    refine st115 _ ?_
    show own_S p e below T115 m 25 #[oR r0, oR r1, oR r2, oR r3, oI 1, oI 4, oU, oU, oU, oU, oU] [] _
    refine XS.aloadN X115.here hx rfl (hb hby d1_25) rfl rfl ?_
    show own_S p e below T115 m 26 #[oR r0, oR r1, oR r2, oR r3, oI 1, oI 4, oU, oU, oU, oU, oU] [(.ref r0)] _
    refine XS.iload X115.here hx rfl (hb hby d1_26) rfl ?_
    show own_S p e below T115 m 28 #[oR r0, oR r1, oR r2, oR r3, oI 1, oI 4, oU, oU, oU, oU, oU] [(.int 4), (.ref r0)] _
    refine st119 _ ?_
    show own_S p e below T119 m 31 #[oR r0, oR r1, oR r2, oR r3, oI 1, oI 4, oU, oU, oU, oU, oU] [] _
    refine XS.dconst0 X119.here hx rfl (v := 0) (hb hby d1_31) rfl ?_
    show own_S p e below T119 m 32 #[oR r0, oR r1, oR r2, oR r3, oI 1, oI 4, oU, oU, oU, oU, oU] [(.double 0)] _
    refine XS.dstore X119.here hx rfl (hb hby d1_32) rfl (l' := #[.val (.ref r0), .val (.ref r1), .val (.ref r2), .val (.ref r3), .val (.int 1), .val (.int 4), .val (.double 0), .second, .unset, .unset, .unset]) rfl ?_
    show own_S p e below T119 m 34 #[oR r0, oR r1, oR r2, oR r3, oI 1, oI 4, oD 0, oV, oU, oU, oU] [] _
    refine XS.dconst0 X119.here hx rfl (v := 0) (hb hby d1_34) rfl ?_
    show own_S p e below T119 m 35 #[oR r0, oR r1, oR r2, oR r3, oI 1, oI 4, oD 0, oV, oU, oU, oU] [(.double 0)] _
    refine XS.dstore X119.here hx rfl (hb hby d1_35) rfl (l' := #[.val (.ref r0), .val (.ref r1), .val (.ref r2), .val (.ref r3), .val (.int 1), .val (.int 4), .val (.double 0), .second, .val (.double 0), .second, .unset]) rfl ?_
    show own_S p e below T119 m 37 #[oR r0, oR r1, oR r2, oR r3, oI 1, oI 4, oD 0, oV, oD 0, oV, oU] [] _
    refine XS.iload X119.here hx rfl (hb hby d1_37) rfl ?_
    show own_S p e below T119 m 39 #[oR r0, oR r1, oR r2, oR r3, oI 1, oI 4, oD 0, oV, oD 0, oV, oU] [(.int 1)] _
    refine XS.istore X119.here hx rfl (hb hby d1_39) rfl (l' := #[.val (.ref r0), .val (.ref r1), .val (.ref r2), .val (.ref r3), .val (.int 1), .val (.int 4), .val (.double 0), .second, .val (.double 0), .second, .val (.int 1)]) rfl ?_
    show own_S p e below T119 m 41 #[oR r0, oR r1, oR r2, oR r3, oI 1, oI 4, oD 0, oV, oD 0, oV, oI 1] [] _
    refine XS.iload X119.here hx rfl (hb hby d1_41) rfl ?_
    show own_S p e below T119 m 43 #[oR r0, oR r1, oR r2, oR r3, oI 1, oI 4, oD 0, oV, oD 0, oV, oI 1] [(.int 1)] _
    refine XS.iload X119.here hx rfl (hb hby d1_43) rfl ?_
    show own_S p e below T119 m 45 #[oR r0, oR r1, oR r2, oR r3, oI 1, oI 4, oD 0, oV, oD 0, oV, oI 1] [(.int 4), (.int 1)] _
    refine XS.icmpNo X119.here hx rfl (hb hby d1_45) rfl (tlt (by decide : (1 : Int32) < (4 : Int32))).2.1 ?_
    show own_S p e below T119 m 48 #[oR r0, oR r1, oR r2, oR r3, oI 1, oI 4, oD 0, oV, oD 0, oV, oI 1] [] _
    refine XS.dload X119.here hx rfl (hb hby d1_48) rfl ?_
    show own_S p e below T119 m 50 #[oR r0, oR r1, oR r2, oR r3, oI 1, oI 4, oD 0, oV, oD 0, oV, oI 1] [(.double 0)] _
    refine XS.aloadN X119.here hx rfl (hb hby d1_50) rfl rfl ?_
    show own_S p e below T119 m 51 #[oR r0, oR r1, oR r2, oR r3, oI 1, oI 4, oD 0, oV, oD 0, oV, oI 1] [(.ref r2), (.double 0)] _
    refine XS.iload X119.here hx rfl (hb hby d1_51) rfl ?_
    show own_S p e below T119 m 53 #[oR r0, oR r1, oR r2, oR r3, oI 1, oI 4, oD 0, oV, oD 0, oV, oI 1] [(.int 1), (.ref r2), (.double 0)] _
    refine X119.daload hx (j := (1 : Int32)) (v := (.double 4611686018427387904)) (by rw [e119]; exact Ar123.1) (State.isArrayOf_alike hZ.alike Ar123.2.1) Ar123.2.2 hin123 hat123 (g := (mkF m 53 #[.val (.ref r0), .val (.ref r1), .val (.ref r2), .val (.ref r3), .val (.int 1), .val (.int 4), .val (.double 0), .second, .val (.double 0), .second, .val (.int 1)] [(.int 1), (.ref r2), (.double 0)])) rfl rfl (hb hby d1_53) _ ?_
    show own_S p e below T119 m 54 #[oR r0, oR r1, oR r2, oR r3, oI 1, oI 4, oD 0, oV, oD 0, oV, oI 1] [(.double 4611686018427387904), (.double 0)] _
    refine XS.aloadN X119.here hx rfl (hb hby d1_54) rfl rfl ?_
    show own_S p e below T119 m 55 #[oR r0, oR r1, oR r2, oR r3, oI 1, oI 4, oD 0, oV, oD 0, oV, oI 1] [(.ref r3), (.double 4611686018427387904), (.double 0)] _
    refine XS.iload X119.here hx rfl (hb hby d1_55) rfl ?_
    show own_S p e below T119 m 57 #[oR r0, oR r1, oR r2, oR r3, oI 1, oI 4, oD 0, oV, oD 0, oV, oI 1] [(.int 1), (.ref r3), (.double 4611686018427387904), (.double 0)] _
    refine X119.iaload hx (j := (1 : Int32)) (v := (.int 1)) (by rw [e119]; exact Ar125.1) (State.isArrayOf_alike hZ.alike Ar125.2.1) Ar125.2.2 hin125 hat125 (g := (mkF m 57 #[.val (.ref r0), .val (.ref r1), .val (.ref r2), .val (.ref r3), .val (.int 1), .val (.int 4), .val (.double 0), .second, .val (.double 0), .second, .val (.int 1)] [(.int 1), (.ref r3), (.double 4611686018427387904), (.double 0)])) rfl rfl (hb hby d1_57) _ ?_
    show own_S p e below T119 m 58 #[oR r0, oR r1, oR r2, oR r3, oI 1, oI 4, oD 0, oV, oD 0, oV, oI 1] [(.int 1), (.double 4611686018427387904), (.double 0)] _
    refine XS.i2dS X119.here hx rfl (v := (4607182418800017408 : UInt64)) (hb hby d1_58) rfl (by decide +kernel) ?_
    show own_S p e below T119 m 59 #[oR r0, oR r1, oR r2, oR r3, oI 1, oI 4, oD 0, oV, oD 0, oV, oI 1] [(.double 4607182418800017408), (.double 4611686018427387904), (.double 0)] _
    refine XS.ddivS X119.here hx rfl (v := (4611686018427387904 : UInt64)) (hb hby d1_59) rfl (own_nnl (by decide +kernel : FP.ddiv (4611686018427387904 : UInt64) (4607182418800017408 : UInt64) = (4611686018427387904 : UInt64)) (by unfold NoNaN64; decide)) (by decide +kernel) ?_
    show own_S p e below T119 m 60 #[oR r0, oR r1, oR r2, oR r3, oI 1, oI 4, oD 0, oV, oD 0, oV, oI 1] [(.double 4611686018427387904), (.double 0)] _
    refine XS.daddS X119.here hx rfl (v := (4611686018427387904 : UInt64)) (hb hby d1_60) rfl (own_nnl (by decide +kernel : FP.dadd (0 : UInt64) (4611686018427387904 : UInt64) = (4611686018427387904 : UInt64)) (by unfold NoNaN64; decide)) (by decide +kernel) ?_
    show own_S p e below T119 m 61 #[oR r0, oR r1, oR r2, oR r3, oI 1, oI 4, oD 0, oV, oD 0, oV, oI 1] [(.double 4611686018427387904)] _
    refine XS.dstore X119.here hx rfl (hb hby d1_61) rfl (l' := #[.val (.ref r0), .val (.ref r1), .val (.ref r2), .val (.ref r3), .val (.int 1), .val (.int 4), .val (.double 4611686018427387904), .second, .val (.double 0), .second, .val (.int 1)]) rfl ?_
    show own_S p e below T119 m 63 #[oR r0, oR r1, oR r2, oR r3, oI 1, oI 4, oD 4611686018427387904, oV, oD 0, oV, oI 1] [] _
    refine XS.dload X119.here hx rfl (hb hby d1_63) rfl ?_
    show own_S p e below T119 m 65 #[oR r0, oR r1, oR r2, oR r3, oI 1, oI 4, oD 4611686018427387904, oV, oD 0, oV, oI 1] [(.double 0)] _
    refine XS.aloadN X119.here hx rfl (hb hby d1_65) rfl rfl ?_
    show own_S p e below T119 m 66 #[oR r0, oR r1, oR r2, oR r3, oI 1, oI 4, oD 4611686018427387904, oV, oD 0, oV, oI 1] [(.ref r2), (.double 0)] _
    refine XS.iload X119.here hx rfl (hb hby d1_66) rfl ?_
    show own_S p e below T119 m 68 #[oR r0, oR r1, oR r2, oR r3, oI 1, oI 4, oD 4611686018427387904, oV, oD 0, oV, oI 1] [(.int 1), (.ref r2), (.double 0)] _
    refine X119.daload hx (j := (1 : Int32)) (v := (.double 4611686018427387904)) (by rw [e119]; exact Ar126.1) (State.isArrayOf_alike hZ.alike Ar126.2.1) Ar126.2.2 hin126 hat126 (g := (mkF m 68 #[.val (.ref r0), .val (.ref r1), .val (.ref r2), .val (.ref r3), .val (.int 1), .val (.int 4), .val (.double 4611686018427387904), .second, .val (.double 0), .second, .val (.int 1)] [(.int 1), (.ref r2), (.double 0)])) rfl rfl (hb hby d1_68) _ ?_
    show own_S p e below T119 m 69 #[oR r0, oR r1, oR r2, oR r3, oI 1, oI 4, oD 4611686018427387904, oV, oD 0, oV, oI 1] [(.double 4611686018427387904), (.double 0)] _
    refine XS.daddS X119.here hx rfl (v := (4611686018427387904 : UInt64)) (hb hby d1_69) rfl (own_nnl (by decide +kernel : FP.dadd (0 : UInt64) (4611686018427387904 : UInt64) = (4611686018427387904 : UInt64)) (by unfold NoNaN64; decide)) (by decide +kernel) ?_
    show own_S p e below T119 m 70 #[oR r0, oR r1, oR r2, oR r3, oI 1, oI 4, oD 4611686018427387904, oV, oD 0, oV, oI 1] [(.double 4611686018427387904)] _
    refine XS.dstore X119.here hx rfl (hb hby d1_70) rfl (l' := #[.val (.ref r0), .val (.ref r1), .val (.ref r2), .val (.ref r3), .val (.int 1), .val (.int 4), .val (.double 4611686018427387904), .second, .val (.double 4611686018427387904), .second, .val (.int 1)]) rfl ?_
    show own_S p e below T119 m 72 #[oR r0, oR r1, oR r2, oR r3, oI 1, oI 4, oD 4611686018427387904, oV, oD 4611686018427387904, oV, oI 1] [] _
    refine XS.iinc X119.here hx rfl (hb hby d1_72) rfl (l' := #[.val (.ref r0), .val (.ref r1), .val (.ref r2), .val (.ref r3), .val (.int 1), .val (.int 4), .val (.double 4611686018427387904), .second, .val (.double 4611686018427387904), .second, .val (.int 2)]) rfl ?_
    show own_S p e below T119 m 75 #[oR r0, oR r1, oR r2, oR r3, oI 1, oI 4, oD 4611686018427387904, oV, oD 4611686018427387904, oV, oI 2] [] _
    refine XS.goto X119.here hx rfl (pc0 := 75) (pc' := 41) rfl (hb hby d1_75) (by decide) (by decide) ?_
    show own_S p e below T119 m 41 #[oR r0, oR r1, oR r2, oR r3, oI 1, oI 4, oD 4611686018427387904, oV, oD 4611686018427387904, oV, oI 2] [] _
    refine XS.iload X119.here hx rfl (hb hby d1_41) rfl ?_
    show own_S p e below T119 m 43 #[oR r0, oR r1, oR r2, oR r3, oI 1, oI 4, oD 4611686018427387904, oV, oD 4611686018427387904, oV, oI 2] [(.int 2)] _
    refine XS.iload X119.here hx rfl (hb hby d1_43) rfl ?_
    show own_S p e below T119 m 45 #[oR r0, oR r1, oR r2, oR r3, oI 1, oI 4, oD 4611686018427387904, oV, oD 4611686018427387904, oV, oI 2] [(.int 4), (.int 2)] _
    refine XS.icmpNo X119.here hx rfl (hb hby d1_45) rfl (tlt (by decide : (2 : Int32) < (4 : Int32))).2.1 ?_
    show own_S p e below T119 m 48 #[oR r0, oR r1, oR r2, oR r3, oI 1, oI 4, oD 4611686018427387904, oV, oD 4611686018427387904, oV, oI 2] [] _
    refine XS.dload X119.here hx rfl (hb hby d1_48) rfl ?_
    show own_S p e below T119 m 50 #[oR r0, oR r1, oR r2, oR r3, oI 1, oI 4, oD 4611686018427387904, oV, oD 4611686018427387904, oV, oI 2] [(.double 4611686018427387904)] _
    refine XS.aloadN X119.here hx rfl (hb hby d1_50) rfl rfl ?_
    show own_S p e below T119 m 51 #[oR r0, oR r1, oR r2, oR r3, oI 1, oI 4, oD 4611686018427387904, oV, oD 4611686018427387904, oV, oI 2] [(.ref r2), (.double 4611686018427387904)] _
    refine XS.iload X119.here hx rfl (hb hby d1_51) rfl ?_
    show own_S p e below T119 m 53 #[oR r0, oR r1, oR r2, oR r3, oI 1, oI 4, oD 4611686018427387904, oV, oD 4611686018427387904, oV, oI 2] [(.int 2), (.ref r2), (.double 4611686018427387904)] _
    refine X119.daload hx (j := (2 : Int32)) (v := (.double 4613937818241073152)) (by rw [e119]; exact Ar127.1) (State.isArrayOf_alike hZ.alike Ar127.2.1) Ar127.2.2 hin127 hat127 (g := (mkF m 53 #[.val (.ref r0), .val (.ref r1), .val (.ref r2), .val (.ref r3), .val (.int 1), .val (.int 4), .val (.double 4611686018427387904), .second, .val (.double 4611686018427387904), .second, .val (.int 2)] [(.int 2), (.ref r2), (.double 4611686018427387904)])) rfl rfl (hb hby d1_53) _ ?_
    show own_S p e below T119 m 54 #[oR r0, oR r1, oR r2, oR r3, oI 1, oI 4, oD 4611686018427387904, oV, oD 4611686018427387904, oV, oI 2] [(.double 4613937818241073152), (.double 4611686018427387904)] _
    refine XS.aloadN X119.here hx rfl (hb hby d1_54) rfl rfl ?_
    show own_S p e below T119 m 55 #[oR r0, oR r1, oR r2, oR r3, oI 1, oI 4, oD 4611686018427387904, oV, oD 4611686018427387904, oV, oI 2] [(.ref r3), (.double 4613937818241073152), (.double 4611686018427387904)] _
    refine XS.iload X119.here hx rfl (hb hby d1_55) rfl ?_
    show own_S p e below T119 m 57 #[oR r0, oR r1, oR r2, oR r3, oI 1, oI 4, oD 4611686018427387904, oV, oD 4611686018427387904, oV, oI 2] [(.int 2), (.ref r3), (.double 4613937818241073152), (.double 4611686018427387904)] _
    refine X119.iaload hx (j := (2 : Int32)) (v := (.int 1)) (by rw [e119]; exact Ar128.1) (State.isArrayOf_alike hZ.alike Ar128.2.1) Ar128.2.2 hin128 hat128 (g := (mkF m 57 #[.val (.ref r0), .val (.ref r1), .val (.ref r2), .val (.ref r3), .val (.int 1), .val (.int 4), .val (.double 4611686018427387904), .second, .val (.double 4611686018427387904), .second, .val (.int 2)] [(.int 2), (.ref r3), (.double 4613937818241073152), (.double 4611686018427387904)])) rfl rfl (hb hby d1_57) _ ?_
    show own_S p e below T119 m 58 #[oR r0, oR r1, oR r2, oR r3, oI 1, oI 4, oD 4611686018427387904, oV, oD 4611686018427387904, oV, oI 2] [(.int 1), (.double 4613937818241073152), (.double 4611686018427387904)] _
    refine XS.i2dS X119.here hx rfl (v := (4607182418800017408 : UInt64)) (hb hby d1_58) rfl (by decide +kernel) ?_
    show own_S p e below T119 m 59 #[oR r0, oR r1, oR r2, oR r3, oI 1, oI 4, oD 4611686018427387904, oV, oD 4611686018427387904, oV, oI 2] [(.double 4607182418800017408), (.double 4613937818241073152), (.double 4611686018427387904)] _
    refine XS.ddivS X119.here hx rfl (v := (4613937818241073152 : UInt64)) (hb hby d1_59) rfl (own_nnl (by decide +kernel : FP.ddiv (4613937818241073152 : UInt64) (4607182418800017408 : UInt64) = (4613937818241073152 : UInt64)) (by unfold NoNaN64; decide)) (by decide +kernel) ?_
    show own_S p e below T119 m 60 #[oR r0, oR r1, oR r2, oR r3, oI 1, oI 4, oD 4611686018427387904, oV, oD 4611686018427387904, oV, oI 2] [(.double 4613937818241073152), (.double 4611686018427387904)] _
    refine XS.daddS X119.here hx rfl (v := (4617315517961601024 : UInt64)) (hb hby d1_60) rfl (own_nnl (by decide +kernel : FP.dadd (4611686018427387904 : UInt64) (4613937818241073152 : UInt64) = (4617315517961601024 : UInt64)) (by unfold NoNaN64; decide)) (by decide +kernel) ?_
    show own_S p e below T119 m 61 #[oR r0, oR r1, oR r2, oR r3, oI 1, oI 4, oD 4611686018427387904, oV, oD 4611686018427387904, oV, oI 2] [(.double 4617315517961601024)] _
    refine XS.dstore X119.here hx rfl (hb hby d1_61) rfl (l' := #[.val (.ref r0), .val (.ref r1), .val (.ref r2), .val (.ref r3), .val (.int 1), .val (.int 4), .val (.double 4617315517961601024), .second, .val (.double 4611686018427387904), .second, .val (.int 2)]) rfl ?_
    show own_S p e below T119 m 63 #[oR r0, oR r1, oR r2, oR r3, oI 1, oI 4, oD 4617315517961601024, oV, oD 4611686018427387904, oV, oI 2] [] _
    refine XS.dload X119.here hx rfl (hb hby d1_63) rfl ?_
    show own_S p e below T119 m 65 #[oR r0, oR r1, oR r2, oR r3, oI 1, oI 4, oD 4617315517961601024, oV, oD 4611686018427387904, oV, oI 2] [(.double 4611686018427387904)] _
    refine XS.aloadN X119.here hx rfl (hb hby d1_65) rfl rfl ?_
    show own_S p e below T119 m 66 #[oR r0, oR r1, oR r2, oR r3, oI 1, oI 4, oD 4617315517961601024, oV, oD 4611686018427387904, oV, oI 2] [(.ref r2), (.double 4611686018427387904)] _
    refine XS.iload X119.here hx rfl (hb hby d1_66) rfl ?_
    show own_S p e below T119 m 68 #[oR r0, oR r1, oR r2, oR r3, oI 1, oI 4, oD 4617315517961601024, oV, oD 4611686018427387904, oV, oI 2] [(.int 2), (.ref r2), (.double 4611686018427387904)] _
    refine X119.daload hx (j := (2 : Int32)) (v := (.double 4613937818241073152)) (by rw [e119]; exact Ar129.1) (State.isArrayOf_alike hZ.alike Ar129.2.1) Ar129.2.2 hin129 hat129 (g := (mkF m 68 #[.val (.ref r0), .val (.ref r1), .val (.ref r2), .val (.ref r3), .val (.int 1), .val (.int 4), .val (.double 4617315517961601024), .second, .val (.double 4611686018427387904), .second, .val (.int 2)] [(.int 2), (.ref r2), (.double 4611686018427387904)])) rfl rfl (hb hby d1_68) _ ?_
    show own_S p e below T119 m 69 #[oR r0, oR r1, oR r2, oR r3, oI 1, oI 4, oD 4617315517961601024, oV, oD 4611686018427387904, oV, oI 2] [(.double 4613937818241073152), (.double 4611686018427387904)] _
    refine XS.daddS X119.here hx rfl (v := (4617315517961601024 : UInt64)) (hb hby d1_69) rfl (own_nnl (by decide +kernel : FP.dadd (4611686018427387904 : UInt64) (4613937818241073152 : UInt64) = (4617315517961601024 : UInt64)) (by unfold NoNaN64; decide)) (by decide +kernel) ?_
    show own_S p e below T119 m 70 #[oR r0, oR r1, oR r2, oR r3, oI 1, oI 4, oD 4617315517961601024, oV, oD 4611686018427387904, oV, oI 2] [(.double 4617315517961601024)] _
    refine XS.dstore X119.here hx rfl (hb hby d1_70) rfl (l' := #[.val (.ref r0), .val (.ref r1), .val (.ref r2), .val (.ref r3), .val (.int 1), .val (.int 4), .val (.double 4617315517961601024), .second, .val (.double 4617315517961601024), .second, .val (.int 2)]) rfl ?_
    show own_S p e below T119 m 72 #[oR r0, oR r1, oR r2, oR r3, oI 1, oI 4, oD 4617315517961601024, oV, oD 4617315517961601024, oV, oI 2] [] _
    refine XS.iinc X119.here hx rfl (hb hby d1_72) rfl (l' := #[.val (.ref r0), .val (.ref r1), .val (.ref r2), .val (.ref r3), .val (.int 1), .val (.int 4), .val (.double 4617315517961601024), .second, .val (.double 4617315517961601024), .second, .val (.int 3)]) rfl ?_
    show own_S p e below T119 m 75 #[oR r0, oR r1, oR r2, oR r3, oI 1, oI 4, oD 4617315517961601024, oV, oD 4617315517961601024, oV, oI 3] [] _
    refine XS.goto X119.here hx rfl (pc0 := 75) (pc' := 41) rfl (hb hby d1_75) (by decide) (by decide) ?_
    show own_S p e below T119 m 41 #[oR r0, oR r1, oR r2, oR r3, oI 1, oI 4, oD 4617315517961601024, oV, oD 4617315517961601024, oV, oI 3] [] _
    refine XS.iload X119.here hx rfl (hb hby d1_41) rfl ?_
    show own_S p e below T119 m 43 #[oR r0, oR r1, oR r2, oR r3, oI 1, oI 4, oD 4617315517961601024, oV, oD 4617315517961601024, oV, oI 3] [(.int 3)] _
    refine XS.iload X119.here hx rfl (hb hby d1_43) rfl ?_
    show own_S p e below T119 m 45 #[oR r0, oR r1, oR r2, oR r3, oI 1, oI 4, oD 4617315517961601024, oV, oD 4617315517961601024, oV, oI 3] [(.int 4), (.int 3)] _
    refine XS.icmpNo X119.here hx rfl (hb hby d1_45) rfl (tlt (by decide : (3 : Int32) < (4 : Int32))).2.1 ?_
    show own_S p e below T119 m 48 #[oR r0, oR r1, oR r2, oR r3, oI 1, oI 4, oD 4617315517961601024, oV, oD 4617315517961601024, oV, oI 3] [] _
    refine XS.dload X119.here hx rfl (hb hby d1_48) rfl ?_
    show own_S p e below T119 m 50 #[oR r0, oR r1, oR r2, oR r3, oI 1, oI 4, oD 4617315517961601024, oV, oD 4617315517961601024, oV, oI 3] [(.double 4617315517961601024)] _
    refine XS.aloadN X119.here hx rfl (hb hby d1_50) rfl rfl ?_
    show own_S p e below T119 m 51 #[oR r0, oR r1, oR r2, oR r3, oI 1, oI 4, oD 4617315517961601024, oV, oD 4617315517961601024, oV, oI 3] [(.ref r2), (.double 4617315517961601024)] _
    refine XS.iload X119.here hx rfl (hb hby d1_51) rfl ?_
    show own_S p e below T119 m 53 #[oR r0, oR r1, oR r2, oR r3, oI 1, oI 4, oD 4617315517961601024, oV, oD 4617315517961601024, oV, oI 3] [(.int 3), (.ref r2), (.double 4617315517961601024)] _
    refine X119.daload hx (j := (3 : Int32)) (v := (.double 4616189618054758400)) (by rw [e119]; exact Ar130.1) (State.isArrayOf_alike hZ.alike Ar130.2.1) Ar130.2.2 hin130 hat130 (g := (mkF m 53 #[.val (.ref r0), .val (.ref r1), .val (.ref r2), .val (.ref r3), .val (.int 1), .val (.int 4), .val (.double 4617315517961601024), .second, .val (.double 4617315517961601024), .second, .val (.int 3)] [(.int 3), (.ref r2), (.double 4617315517961601024)])) rfl rfl (hb hby d1_53) _ ?_
    show own_S p e below T119 m 54 #[oR r0, oR r1, oR r2, oR r3, oI 1, oI 4, oD 4617315517961601024, oV, oD 4617315517961601024, oV, oI 3] [(.double 4616189618054758400), (.double 4617315517961601024)] _
    refine XS.aloadN X119.here hx rfl (hb hby d1_54) rfl rfl ?_
    show own_S p e below T119 m 55 #[oR r0, oR r1, oR r2, oR r3, oI 1, oI 4, oD 4617315517961601024, oV, oD 4617315517961601024, oV, oI 3] [(.ref r3), (.double 4616189618054758400), (.double 4617315517961601024)] _
    refine XS.iload X119.here hx rfl (hb hby d1_55) rfl ?_
    show own_S p e below T119 m 57 #[oR r0, oR r1, oR r2, oR r3, oI 1, oI 4, oD 4617315517961601024, oV, oD 4617315517961601024, oV, oI 3] [(.int 3), (.ref r3), (.double 4616189618054758400), (.double 4617315517961601024)] _
    refine X119.iaload hx (j := (3 : Int32)) (v := (.int 1)) (by rw [e119]; exact Ar131.1) (State.isArrayOf_alike hZ.alike Ar131.2.1) Ar131.2.2 hin131 hat131 (g := (mkF m 57 #[.val (.ref r0), .val (.ref r1), .val (.ref r2), .val (.ref r3), .val (.int 1), .val (.int 4), .val (.double 4617315517961601024), .second, .val (.double 4617315517961601024), .second, .val (.int 3)] [(.int 3), (.ref r3), (.double 4616189618054758400), (.double 4617315517961601024)])) rfl rfl (hb hby d1_57) _ ?_
    show own_S p e below T119 m 58 #[oR r0, oR r1, oR r2, oR r3, oI 1, oI 4, oD 4617315517961601024, oV, oD 4617315517961601024, oV, oI 3] [(.int 1), (.double 4616189618054758400), (.double 4617315517961601024)] _
    refine XS.i2dS X119.here hx rfl (v := (4607182418800017408 : UInt64)) (hb hby d1_58) rfl (by decide +kernel) ?_
    show own_S p e below T119 m 59 #[oR r0, oR r1, oR r2, oR r3, oI 1, oI 4, oD 4617315517961601024, oV, oD 4617315517961601024, oV, oI 3] [(.double 4607182418800017408), (.double 4616189618054758400), (.double 4617315517961601024)] _
    refine XS.ddivS X119.here hx rfl (v := (4616189618054758400 : UInt64)) (hb hby d1_59) rfl (own_nnl (by decide +kernel : FP.ddiv (4616189618054758400 : UInt64) (4607182418800017408 : UInt64) = (4616189618054758400 : UInt64)) (by unfold NoNaN64; decide)) (by decide +kernel) ?_
    show own_S p e below T119 m 60 #[oR r0, oR r1, oR r2, oR r3, oI 1, oI 4, oD 4617315517961601024, oV, oD 4617315517961601024, oV, oI 3] [(.double 4616189618054758400), (.double 4617315517961601024)] _
    refine XS.daddS X119.here hx rfl (v := (4621256167635550208 : UInt64)) (hb hby d1_60) rfl (own_nnl (by decide +kernel : FP.dadd (4617315517961601024 : UInt64) (4616189618054758400 : UInt64) = (4621256167635550208 : UInt64)) (by unfold NoNaN64; decide)) (by decide +kernel) ?_
    show own_S p e below T119 m 61 #[oR r0, oR r1, oR r2, oR r3, oI 1, oI 4, oD 4617315517961601024, oV, oD 4617315517961601024, oV, oI 3] [(.double 4621256167635550208)] _
    refine XS.dstore X119.here hx rfl (hb hby d1_61) rfl (l' := #[.val (.ref r0), .val (.ref r1), .val (.ref r2), .val (.ref r3), .val (.int 1), .val (.int 4), .val (.double 4621256167635550208), .second, .val (.double 4617315517961601024), .second, .val (.int 3)]) rfl ?_
    show own_S p e below T119 m 63 #[oR r0, oR r1, oR r2, oR r3, oI 1, oI 4, oD 4621256167635550208, oV, oD 4617315517961601024, oV, oI 3] [] _
    refine XS.dload X119.here hx rfl (hb hby d1_63) rfl ?_
    show own_S p e below T119 m 65 #[oR r0, oR r1, oR r2, oR r3, oI 1, oI 4, oD 4621256167635550208, oV, oD 4617315517961601024, oV, oI 3] [(.double 4617315517961601024)] _
    refine XS.aloadN X119.here hx rfl (hb hby d1_65) rfl rfl ?_
    show own_S p e below T119 m 66 #[oR r0, oR r1, oR r2, oR r3, oI 1, oI 4, oD 4621256167635550208, oV, oD 4617315517961601024, oV, oI 3] [(.ref r2), (.double 4617315517961601024)] _
    refine XS.iload X119.here hx rfl (hb hby d1_66) rfl ?_
    show own_S p e below T119 m 68 #[oR r0, oR r1, oR r2, oR r3, oI 1, oI 4, oD 4621256167635550208, oV, oD 4617315517961601024, oV, oI 3] [(.int 3), (.ref r2), (.double 4617315517961601024)] _
    refine X119.daload hx (j := (3 : Int32)) (v := (.double 4616189618054758400)) (by rw [e119]; exact Ar132.1) (State.isArrayOf_alike hZ.alike Ar132.2.1) Ar132.2.2 hin132 hat132 (g := (mkF m 68 #[.val (.ref r0), .val (.ref r1), .val (.ref r2), .val (.ref r3), .val (.int 1), .val (.int 4), .val (.double 4621256167635550208), .second, .val (.double 4617315517961601024), .second, .val (.int 3)] [(.int 3), (.ref r2), (.double 4617315517961601024)])) rfl rfl (hb hby d1_68) _ ?_
    show own_S p e below T119 m 69 #[oR r0, oR r1, oR r2, oR r3, oI 1, oI 4, oD 4621256167635550208, oV, oD 4617315517961601024, oV, oI 3] [(.double 4616189618054758400), (.double 4617315517961601024)] _
    refine XS.daddS X119.here hx rfl (v := (4621256167635550208 : UInt64)) (hb hby d1_69) rfl (own_nnl (by decide +kernel : FP.dadd (4617315517961601024 : UInt64) (4616189618054758400 : UInt64) = (4621256167635550208 : UInt64)) (by unfold NoNaN64; decide)) (by decide +kernel) ?_
    show own_S p e below T119 m 70 #[oR r0, oR r1, oR r2, oR r3, oI 1, oI 4, oD 4621256167635550208, oV, oD 4617315517961601024, oV, oI 3] [(.double 4621256167635550208)] _
    refine XS.dstore X119.here hx rfl (hb hby d1_70) rfl (l' := #[.val (.ref r0), .val (.ref r1), .val (.ref r2), .val (.ref r3), .val (.int 1), .val (.int 4), .val (.double 4621256167635550208), .second, .val (.double 4621256167635550208), .second, .val (.int 3)]) rfl ?_
    show own_S p e below T119 m 72 #[oR r0, oR r1, oR r2, oR r3, oI 1, oI 4, oD 4621256167635550208, oV, oD 4621256167635550208, oV, oI 3] [] _
    refine XS.iinc X119.here hx rfl (hb hby d1_72) rfl (l' := #[.val (.ref r0), .val (.ref r1), .val (.ref r2), .val (.ref r3), .val (.int 1), .val (.int 4), .val (.double 4621256167635550208), .second, .val (.double 4621256167635550208), .second, .val (.int 4)]) rfl ?_
    show own_S p e below T119 m 75 #[oR r0, oR r1, oR r2, oR r3, oI 1, oI 4, oD 4621256167635550208, oV, oD 4621256167635550208, oV, oI 4] [] _
    refine XS.goto X119.here hx rfl (pc0 := 75) (pc' := 41) rfl (hb hby d1_75) (by decide) (by decide) ?_
    show own_S p e below T119 m 41 #[oR r0, oR r1, oR r2, oR r3, oI 1, oI 4, oD 4621256167635550208, oV, oD 4621256167635550208, oV, oI 4] [] _
    refine XS.iload X119.here hx rfl (hb hby d1_41) rfl ?_
    show own_S p e below T119 m 43 #[oR r0, oR r1, oR r2, oR r3, oI 1, oI 4, oD 4621256167635550208, oV, oD 4621256167635550208, oV, oI 4] [(.int 4)] _
    refine XS.iload X119.here hx rfl (hb hby d1_43) rfl ?_
    show own_S p e below T119 m 45 #[oR r0, oR r1, oR r2, oR r3, oI 1, oI 4, oD 4621256167635550208, oV, oD 4621256167635550208, oV, oI 4] [(.int 4), (.int 4)] _
    refine XS.icmpYes X119.here hx rfl (pc0 := 45) (pc' := 78) rfl (hb hby d1_45) rfl (flt (by decide : ¬ ((4 : Int32) < (4 : Int32)))).2.1 (by decide) (by decide) ?_
    show own_S p e below T119 m 78 #[oR r0, oR r1, oR r2, oR r3, oI 1, oI 4, oD 4621256167635550208, oV, oD 4621256167635550208, oV, oI 4] [] _
    refine XS.aloadN X119.here hx rfl (hb hby d1_78) rfl rfl ?_
    show own_S p e below T119 m 79 #[oR r0, oR r1, oR r2, oR r3, oI 1, oI 4, oD 4621256167635550208, oV, oD 4621256167635550208, oV, oI 4] [(.ref r0)] _
    refine XS.dload X119.here hx rfl (hb hby d1_79) rfl ?_
    show own_S p e below T119 m 81 #[oR r0, oR r1, oR r2, oR r3, oI 1, oI 4, oD 4621256167635550208, oV, oD 4621256167635550208, oV, oI 4] [(.double 4621256167635550208), (.ref r0)] _
    refine st135 _ ?_
    show own_S p e below T135 m 84 #[oR r0, oR r1, oR r2, oR r3, oI 1, oI 4, oD 4621256167635550208, oV, oD 4621256167635550208, oV, oI 4] [] _
    refine XS.aloadN X135.here hx rfl (hb hby d1_84) rfl rfl ?_
    show own_S p e below T135 m 85 #[oR r0, oR r1, oR r2, oR r3, oI 1, oI 4, oD 4621256167635550208, oV, oD 4621256167635550208, oV, oI 4] [(.ref r0)] _
    refine XS.dload X135.here hx rfl (hb hby d1_85) rfl ?_
    show own_S p e below T135 m 87 #[oR r0, oR r1, oR r2, oR r3, oI 1, oI 4, oD 4621256167635550208, oV, oD 4621256167635550208, oV, oI 4] [(.double 4621256167635550208), (.ref r0)] _
    refine st139 _ ?_
    show own_S p e below T139 m 90 #[oR r0, oR r1, oR r2, oR r3, oI 1, oI 4, oD 4621256167635550208, oV, oD 4621256167635550208, oV, oI 4] [] _
    exact X139.returnOut hx Bd.returns (hb hby d1_90) hr
  · show Q1_1_4 Z r0 r1 r2 r3 u0 u1 u2 u3 u4 u5 u6 kd ko h0 n0 _ T139.heap _
    rw [e139]
    exact ⟨rfl, N139, KK141, ((Fc134.wr W135).wr W139), ((((((Fw102.other W106 (Or.inr (sn21 hw))).other W110 (Or.inr (sn22 hw))).other W115 (Or.inr (sn23 hw))).other W119 (Or.inr (sn24 hw))).other W135 (Or.inr (sn25 hw))).other W139 (Or.inr (sn26 hw))), (((Fw115.other W119 (Or.inr (sn27 hw))).other W135 (Or.inr (sn28 hw))).other W139 (Or.inr (sn29 hw))), ((Fw119.other W135 (Or.inr (sn30 hw))).other W139 (Or.inr (sn31 hw)))⟩
theorem ef1_2_2 (m : MethodId) (r0 : Addr) (r1 : Addr) (r2 : Addr) (r3 : Addr) : entryFrame m #[(.ref r0), (.ref r1), (.ref r2), (.ref r3), (.int 2), (.int 2)] 11 = mkF m 0 #[.val (.ref r0), .val (.ref r1), .val (.ref r2), .val (.ref r3), .val (.int 2), .val (.int 2), .unset, .unset, .unset, .unset, .unset] [] := by first | (simp [entryFrame, mkF, argsToLocals, Value.category]; done) | rfl
def Q1_2_2 (Z : State) (r0 : Addr) (r1 : Addr) (r2 : Addr) (r3 : Addr) (u0 : Value) (u1 : Value) (u2 : Value) (u3 : Value) (u4 : Value) (u5 : Value) (u6 : Value) (kd : ClassId) (ko : ClassId) (h0 : Heap) (n0 : Nat) (v : Option Value) (h : Heap) (L : List Loc) : Prop := v = none ∧ Fr n0 L ∧ (Keep h0 h [r0]) ∧ (Exa Z h r0 "com/example/buurt/buurt/model/CrossTermFrequencies") ∧ (Fld Z h r0 "com/example/buurt/buurt/model/CrossTermFrequencies" "docs" "[I" (.ref r1)) ∧ (Fld Z h r0 "com/example/buurt/buurt/model/CrossTermFrequencies" "from" "I" (.int 2)) ∧ (Fld Z h r0 "com/example/buurt/buurt/model/CrossTermFrequencies" "to" "I" (.int 2))
set_option maxRecDepth 65536 in
set_option maxHeartbeats 40000000 in
theorem rm1_2_2 (l : Launch) (Z : State) (a0 : Array Value) (hw : ∀ d ∈ tables_1, d.before a0 Z = true) (ws : List Jvm.Cond) (r0 : Addr) (r1 : Addr) (r2 : Addr) (r3 : Addr) (u0 : Value) (u1 : Value) (u2 : Value) (u3 : Value) (u4 : Value) (u5 : Value) (u6 : Value) (kd : ClassId) (ko : ClassId) (h0 : Heap) (n0 : Nat) (Z0 : n0 ≤ h0.size) (F_docs_r0 : Fld Z h0 r0 "com/example/buurt/buurt/model/CrossTermFrequencies" "docs" "[I" u0) (F_tfs_r0 : Fld Z h0 r0 "com/example/buurt/buurt/model/CrossTermFrequencies" "tfs" "[D" u1) (F_occurs_r0 : Fld Z h0 r0 "com/example/buurt/buurt/model/CrossTermFrequencies" "occurs" "[I" u2) (F_from_r0 : Fld Z h0 r0 "com/example/buurt/buurt/model/CrossTermFrequencies" "from" "I" u3) (F_to_r0 : Fld Z h0 r0 "com/example/buurt/buurt/model/CrossTermFrequencies" "to" "I" u4) (F_documentFrequency_r0 : Fld Z h0 r0 "com/example/buurt/buurt/model/CrossTermFrequencies" "documentFrequency" "D" u5) (F_collectionFrequency_r0 : Fld Z h0 r0 "com/example/buurt/buurt/model/CrossTermFrequencies" "collectionFrequency" "D" u6) (E_r0 : Exa Z h0 r0 "com/example/buurt/buurt/model/CrossTermFrequencies") (g_r0 : n0 ≤ r0) (V_r2 : Arv Z h0 r2 kd .double (4 : Int32) [(.double 4607182418800017408), (.double 4611686018427387904), (.double 4613937818241073152), (.double 4616189618054758400)] (.double 0)) (V_r3 : Arv Z h0 r3 ko .int (4 : Int32) [(.int 1), (.int 1), (.int 1), (.int 1)] (.int 0)) (ne_r2_r0 : r2 ≠ r0) (ne_r3_r0 : r3 ≠ r0) :
    MetFree l (⟨"com/example/buurt/buurt/model/CrossTermFrequencies", "<init>", "([I[D[III)V"⟩ : MethodName) (head1 (Jvm.Cond.code (⟨"com/example/buurt/buurt/model/CrossTermFrequencies", "<init>", "([I[D[III)V"⟩ : MethodName) prog_27_method_1_code 11 none :: ws) ({ frames := 1, cells := 0, slots := 0, locals := 12 } : Room)) (fun a U => a = #[(.ref r0), (.ref r1), (.ref r2), (.ref r3), (.int 2), (.int 2)] ∧ Z.Warmed39 U.vm ∧ U.heap = h0) (fun _ _ _ _ _ => True) (fun _ U o U' => ∃ v L, o = .returned v ∧ Q1_2_2 Z r0 r1 r2 r3 u0 u1 u2 u3 u4 u5 u6 kd ko h0 n0 v U'.heap L ∧ FrameEnd U o U' L ({ frames := 1, cells := 0, slots := 0, locals := 12 } : Room).cells ({ frames := 1, cells := 0, slots := 0, locals := 12 } : Room).slots) := by
  refine MetFree.of_bodySF (plainFor_of_name pn0) hisR ?_
  intro p e s m args below meth c s₁ Bd hml0 hP hK
  obtain ⟨rfl, hZ, hh⟩ := hP
  have hx := Bd.exec
  have hby := Bd.bytes
  have hml : c.maxLocals = 11 := hml0
  have hown : s.vm.findClass "com/example/buurt/buurt/model/CrossTermFrequencies" = some m.cls := findClass_of_methodNamed Bd.named
  have hnm := (name_of_methodNamed Bd.named Bd.method).1
  have X0 : Stand p l e ({ frames := 1, cells := 0, slots := 0, locals := 12 } : Room) s m #[(.ref r0), (.ref r1), (.ref r2), (.ref r3), (.int 2), (.int 2)] below meth c s₁ [] 0 0 := Stand.of_body Bd
  have e0 : s₁.heap = h0 := by rw [← hh, Bd.state]; rfl
  have N0 := Fr.nil n0
  have pre0 : ∀ t, Steps p.tables e below (s₁.setTop (mkF m 0 #[.val (.ref r0), .val (.ref r1), .val (.ref r2), .val (.ref r3), .val (.int 2), .val (.int 2), .unset, .unset, .unset, .unset, .unset] [])) t → Steps p.tables e below (s₁.setTop (entryFrame m #[(.ref r0), (.ref r1), (.ref r2), (.ref r3), (.int 2), (.int 2)] 11)) t := fun t k => castTop (ef1_2_2 m r0 r1 r2 r3) k
  obtain ⟨T101, X101, e101, st101⟩ := initO X0 hx hZ hown (own_w hw 12 rfl) (own_w hw 13 rfl) (own_w hw 14 rfl) e0 (g := (mkF m 1 #[.val (.ref r0), .val (.ref r1), .val (.ref r2), .val (.ref r3), .val (.int 2), .val (.int 2), .unset, .unset, .unset, .unset, .unset] [(.ref r0)])) rfl (by rw [hml]; rfl) rfl (hb hby d1_1) (by decide) (W := 0) (by show 2 * 0 + _ ≤ _; exact Nat.le_of_eq rfl) (by decide)
  obtain ⟨T102, h102, X102, e102, W102, st102⟩ := putF X101 hx hZ hown (host := "") (Or.inl (own_w hw 15 rfl)) Via.refl e101 F_docs_r0 E_r0 (Or.inr ⟨(own_w hw 16 rfl), rfl, hnm⟩) (own_w hw 7 rfl) (ty := (.array .int)) (by decide) rfl rfl (g := (mkF m 6 #[.val (.ref r0), .val (.ref r1), .val (.ref r2), .val (.ref r3), .val (.int 2), .val (.int 2), .unset, .unset, .unset, .unset, .unset] [(.ref r1), (.ref r0)])) rfl rfl (hb hby d1_6)
  have Fw102 := F_docs_r0.same W102
  have N102 := Fr.snoc X102 N0 g_r0
  have ZZ103 : n0 ≤ h102.size := Nat.le_trans Z0 (Nat.le_of_eq W102.size.symm)
  have KK104 : Keep h0 h102 [r0] := (Keep.refl h0 [r0]).wr W102 (Or.inl (List.mem_of_getElem? (i := 0) rfl))
  have Fc105 := (F_tfs_r0.other W102 (Or.inr (sn0 hw)))
  obtain ⟨T106, h106, X106, e106, W106, st106⟩ := putF X102 hx hZ hown (host := "") (Or.inl (own_w hw 17 rfl)) Via.refl e102 Fc105 (E_r0.wr W102) (Or.inr ⟨(own_w hw 18 rfl), rfl, hnm⟩) (own_w hw 7 rfl) (ty := (.array .double)) (by decide) rfl rfl (g := (mkF m 11 #[.val (.ref r0), .val (.ref r1), .val (.ref r2), .val (.ref r3), .val (.int 2), .val (.int 2), .unset, .unset, .unset, .unset, .unset] [(.ref r2), (.ref r0)])) rfl rfl (hb hby d1_11)
  have Fw106 := Fc105.same W106
  have N106 := Fr.snoc X106 N102 g_r0
  have ZZ107 : n0 ≤ h106.size := Nat.le_trans ZZ103 (Nat.le_of_eq W106.size.symm)
  have KK108 : Keep h0 h106 [r0] := KK104.wr W106 (Or.inl (List.mem_of_getElem? (i := 0) rfl))
  have Fc109 := ((F_occurs_r0.other W102 (Or.inr (sn1 hw))).other W106 (Or.inr (sn2 hw)))
  obtain ⟨T110, h110, X110, e110, W110, st110⟩ := putF X106 hx hZ hown (host := "") (Or.inl (own_w hw 19 rfl)) Via.refl e106 Fc109 ((E_r0.wr W102).wr W106) (Or.inr ⟨(own_w hw 20 rfl), rfl, hnm⟩) (own_w hw 7 rfl) (ty := (.array .int)) (by decide) rfl rfl (g := (mkF m 16 #[.val (.ref r0), .val (.ref r1), .val (.ref r2), .val (.ref r3), .val (.int 2), .val (.int 2), .unset, .unset, .unset, .unset, .unset] [(.ref r3), (.ref r0)])) rfl rfl (hb hby d1_16)
  have Fw110 := Fc109.same W110
  have N110 := Fr.snoc X110 N106 g_r0
  have ZZ111 : n0 ≤ h110.size := Nat.le_trans ZZ107 (Nat.le_of_eq W110.size.symm)
  have KK112 : Keep h0 h110 [r0] := KK108.wr W110 (Or.inl (List.mem_of_getElem? (i := 0) rfl))
  have Fc113 := (((F_from_r0.other W102 (Or.inr (sn3 hw))).other W106 (Or.inr (sn4 hw))).other W110 (Or.inr (sn5 hw)))
  have Fc114 := (((E_r0.wr W102).wr W106).wr W110)
  obtain ⟨T115, h115, X115, e115, W115, st115⟩ := putF X110 hx hZ hown (host := "") (Or.inl (own_w hw 21 rfl)) Via.refl e110 Fc113 Fc114 (Or.inr ⟨(own_w hw 22 rfl), rfl, hnm⟩) (own_w hw 7 rfl) (ty := .int) (by decide) rfl rfl (g := (mkF m 22 #[.val (.ref r0), .val (.ref r1), .val (.ref r2), .val (.ref r3), .val (.int 2), .val (.int 2), .unset, .unset, .unset, .unset, .unset] [(.int 2), (.ref r0)])) rfl rfl (hb hby d1_22)
  have Fw115 := Fc113.same W115
  have N115 := Fr.snoc X115 N110 g_r0
  have ZZ116 : n0 ≤ h115.size := Nat.le_trans ZZ111 (Nat.le_of_eq W115.size.symm)
  have KK117 : Keep h0 h115 [r0] := KK112.wr W115 (Or.inl (List.mem_of_getElem? (i := 0) rfl))
  have Fc118 := ((((F_to_r0.other W102 (Or.inr (sn6 hw))).other W106 (Or.inr (sn7 hw))).other W110 (Or.inr (sn8 hw))).other W115 (Or.inr (sn9 hw)))
  obtain ⟨T119, h119, X119, e119, W119, st119⟩ := putF X115 hx hZ hown (host := "") (Or.inl (own_w hw 23 rfl)) Via.refl e115 Fc118 (Fc114.wr W115) (Or.inr ⟨(own_w hw 24 rfl), rfl, hnm⟩) (own_w hw 7 rfl) (ty := .int) (by decide) rfl rfl (g := (mkF m 28 #[.val (.ref r0), .val (.ref r1), .val (.ref r2), .val (.ref r3), .val (.int 2), .val (.int 2), .unset, .unset, .unset, .unset, .unset] [(.int 2), (.ref r0)])) rfl rfl (hb hby d1_28)
  have Fw119 := Fc118.same W119
  have N119 := Fr.snoc X119 N115 g_r0
  have ZZ120 : n0 ≤ h119.size := Nat.le_trans ZZ116 (Nat.le_of_eq W119.size.symm)
  have KK121 : Keep h0 h119 [r0] := KK117.wr W119 (Or.inl (List.mem_of_getElem? (i := 0) rfl))
  have Fc122 := (((((F_documentFrequency_r0.other W102 (Or.inr (sn10 hw))).other W106 (Or.inr (sn11 hw))).other W110 (Or.inr (sn12 hw))).other W115 (Or.inr (sn13 hw))).other W119 (Or.inr (sn14 hw)))
  have Fc123 := ((Fc114.wr W115).wr W119)
  obtain ⟨T124, h124, X124, e124, W124, st124⟩ := putF X119 hx hZ hown (host := "") (Or.inl (own_w hw 25 rfl)) Via.refl e119 Fc122 Fc123 (Or.inr ⟨(own_w hw 26 rfl), rfl, hnm⟩) (own_w hw 7 rfl) (ty := .double) (by decide) rfl rfl (g := (mkF m 81 #[.val (.ref r0), .val (.ref r1), .val (.ref r2), .val (.ref r3), .val (.int 2), .val (.int 2), .val (.double 0), .second, .val (.double 0), .second, .val (.int 2)] [(.double 0), (.ref r0)])) rfl rfl (hb hby d1_81)
  have Fw124 := Fc122.same W124
  have N124 := Fr.snoc X124 N119 g_r0
  have ZZ125 : n0 ≤ h124.size := Nat.le_trans ZZ120 (Nat.le_of_eq W124.size.symm)
  have KK126 : Keep h0 h124 [r0] := KK121.wr W124 (Or.inl (List.mem_of_getElem? (i := 0) rfl))
  have Fc127 := ((((((F_collectionFrequency_r0.other W102 (Or.inr (sn15 hw))).other W106 (Or.inr (sn16 hw))).other W110 (Or.inr (sn17 hw))).other W115 (Or.inr (sn18 hw))).other W119 (Or.inr (sn19 hw))).other W124 (Or.inr (sn20 hw)))
  obtain ⟨T128, h128, X128, e128, W128, st128⟩ := putF X124 hx hZ hown (host := "") (Or.inl (own_w hw 27 rfl)) Via.refl e124 Fc127 (Fc123.wr W124) (Or.inr ⟨(own_w hw 28 rfl), rfl, hnm⟩) (own_w hw 7 rfl) (ty := .double) (by decide) rfl rfl (g := (mkF m 87 #[.val (.ref r0), .val (.ref r1), .val (.ref r2), .val (.ref r3), .val (.int 2), .val (.int 2), .val (.double 0), .second, .val (.double 0), .second, .val (.int 2)] [(.double 0), (.ref r0)])) rfl rfl (hb hby d1_87)
  have Fw128 := Fc127.same W128
  have N128 := Fr.snoc X128 N124 g_r0
  have ZZ129 : n0 ≤ h128.size := Nat.le_trans ZZ125 (Nat.le_of_eq W128.size.symm)
  have KK130 : Keep h0 h128 [r0] := KK126.wr W128 (Or.inl (List.mem_of_getElem? (i := 0) rfl))
  obtain ⟨fs, hr, hrun, hended, hW, hsame⟩ := X128.leave (v := none) (fun _ => rfl)
  refine ⟨_, _, pre0 _ ?_, hrun, hended, _, _, rfl, ?_, ⟨_, rfl⟩, hW, hsame.mono (by decide) (by decide)⟩
  · show own_S p e below s₁ m 0 #[oR r0, oR r1, oR r2, oR r3, oI 2, oI 2, oU, oU, oU, oU, oU] [] _
    refine XS.aloadN X0.here hx rfl (hb hby d1_0) rfl rfl ?_
    show own_S p e below s₁ m 1 #[oR r0, oR r1, oR r2, oR r3, oI 2, oI 2, oU, oU, oU, oU, oU] [(.ref r0)] _
    refine st101 _ ?_
    show own_S p e below T101 m 4 #[oR r0, oR r1, oR r2, oR r3, oI 2, oI 2, oU, oU, oU, oU, oU] [] _
    refine XS.aloadN X101.here hx rfl (hb hby d1_4) rfl rfl ?_
    show own_S p e below T101 m 5 #[oR r0, oR r1, oR r2, oR r3, oI 2, oI 2, oU, oU, oU, oU, oU] [(.ref r0)] _
    refine XS.aloadN X101.here hx rfl (hb hby d1_5) rfl rfl ?_
    show own_S p e below T101 m 6 #[oR r0, oR r1, oR r2, oR r3, oI 2, oI 2, oU, oU, oU, oU, oU] [(.ref r1), (.ref r0)] _
    refine st102 _ ?_
    show own_S p e below T102 m 9 #[oR r0, oR r1, oR r2, oR r3, oI 2, oI 2, oU, oU, oU, oU, oU] [] _
    refine XS.aloadN X102.here hx rfl (hb hby d1_9) rfl rfl ?_
    show own_S p e below T102 m 10 #[oR r0, oR r1, oR r2, oR r3, oI 2, oI 2, oU, oU, oU, oU, oU] [(.ref r0)] _
    refine XS.aloadN X102.here hx rfl (hb hby d1_10) rfl rfl ?_
    show own_S p e below T102 m 11 #[oR r0, oR r1, oR r2, oR r3, oI 2, oI 2, oU, oU, oU, oU, oU] [(.ref r2), (.ref r0)] _
    refine st106 _ ?_
    show own_S p e below T106 m 14 #[oR r0, oR r1, oR r2, oR r3, oI 2, oI 2, oU, oU, oU, oU, oU] [] _
    refine XS.aloadN X106.here hx rfl (hb hby d1_14) rfl rfl ?_
    show own_S p e below T106 m 15 #[oR r0, oR r1, oR r2, oR r3, oI 2, oI 2, oU, oU, oU, oU, oU] [(.ref r0)] _
    refine XS.aloadN X106.here hx rfl (hb hby d1_15) rfl rfl ?_
    show own_S p e below T106 m 16 #[oR r0, oR r1, oR r2, oR r3, oI 2, oI 2, oU, oU, oU, oU, oU] [(.ref r3), (.ref r0)] _
    refine st110 _ ?_
    show own_S p e below T110 m 19 #[oR r0, oR r1, oR r2, oR r3, oI 2, oI 2, oU, oU, oU, oU, oU] [] _
    refine XS.aloadN X110.here hx rfl (hb hby d1_19) rfl rfl ?_
    show own_S p e below T110 m 20 #[oR r0, oR r1, oR r2, oR r3, oI 2, oI 2, oU, oU, oU, oU, oU] [(.ref r0)] _
    refine XS.iload X110.here hx rfl (hb hby d1_20) rfl ?_
    show own_S p e below T110 m 22 #[oR r0, oR r1, oR r2, oR r3, oI 2, oI 2, oU, oU, oU, oU, oU] [(.int 2), (.ref r0)] _
    refine st115 _ ?_
    show own_S p e below T115 m 25 #[oR r0, oR r1, oR r2, oR r3, oI 2, oI 2, oU, oU, oU, oU, oU] [] _
    refine XS.aloadN X115.here hx rfl (hb hby d1_25) rfl rfl ?_
    show own_S p e below T115 m 26 #[oR r0, oR r1, oR r2, oR r3, oI 2, oI 2, oU, oU, oU, oU, oU] [(.ref r0)] _
    refine XS.iload X115.here hx rfl (hb hby d1_26) rfl ?_
    show own_S p e below T115 m 28 #[oR r0, oR r1, oR r2, oR r3, oI 2, oI 2, oU, oU, oU, oU, oU] [(.int 2), (.ref r0)] _
    refine st119 _ ?_
    show own_S p e below T119 m 31 #[oR r0, oR r1, oR r2, oR r3, oI 2, oI 2, oU, oU, oU, oU, oU] [] _
    refine XS.dconst0 X119.here hx rfl (v := 0) (hb hby d1_31) rfl ?_
    show own_S p e below T119 m 32 #[oR r0, oR r1, oR r2, oR r3, oI 2, oI 2, oU, oU, oU, oU, oU] [(.double 0)] _
    refine XS.dstore X119.here hx rfl (hb hby d1_32) rfl (l' := #[.val (.ref r0), .val (.ref r1), .val (.ref r2), .val (.ref r3), .val (.int 2), .val (.int 2), .val (.double 0), .second, .unset, .unset, .unset]) rfl ?_
    show own_S p e below T119 m 34 #[oR r0, oR r1, oR r2, oR r3, oI 2, oI 2, oD 0, oV, oU, oU, oU] [] _
    refine XS.dconst0 X119.here hx rfl (v := 0) (hb hby d1_34) rfl ?_
    show own_S p e below T119 m 35 #[oR r0, oR r1, oR r2, oR r3, oI 2, oI 2, oD 0, oV, oU, oU, oU] [(.double 0)] _
    refine XS.dstore X119.here hx rfl (hb hby d1_35) rfl (l' := #[.val (.ref r0), .val (.ref r1), .val (.ref r2), .val (.ref r3), .val (.int 2), .val (.int 2), .val (.double 0), .second, .val (.double 0), .second, .unset]) rfl ?_
    show own_S p e below T119 m 37 #[oR r0, oR r1, oR r2, oR r3, oI 2, oI 2, oD 0, oV, oD 0, oV, oU] [] _
    refine XS.iload X119.here hx rfl (hb hby d1_37) rfl ?_
    show own_S p e below T119 m 39 #[oR r0, oR r1, oR r2, oR r3, oI 2, oI 2, oD 0, oV, oD 0, oV, oU] [(.int 2)] _
    refine XS.istore X119.here hx rfl (hb hby d1_39) rfl (l' := #[.val (.ref r0), .val (.ref r1), .val (.ref r2), .val (.ref r3), .val (.int 2), .val (.int 2), .val (.double 0), .second, .val (.double 0), .second, .val (.int 2)]) rfl ?_
    show own_S p e below T119 m 41 #[oR r0, oR r1, oR r2, oR r3, oI 2, oI 2, oD 0, oV, oD 0, oV, oI 2] [] _
    refine XS.iload X119.here hx rfl (hb hby d1_41) rfl ?_
    show own_S p e below T119 m 43 #[oR r0, oR r1, oR r2, oR r3, oI 2, oI 2, oD 0, oV, oD 0, oV, oI 2] [(.int 2)] _
    refine XS.iload X119.here hx rfl (hb hby d1_43) rfl ?_
    show own_S p e below T119 m 45 #[oR r0, oR r1, oR r2, oR r3, oI 2, oI 2, oD 0, oV, oD 0, oV, oI 2] [(.int 2), (.int 2)] _
    refine XS.icmpYes X119.here hx rfl (pc0 := 45) (pc' := 78) rfl (hb hby d1_45) rfl (flt (by decide : ¬ ((2 : Int32) < (2 : Int32)))).2.1 (by decide) (by decide) ?_
    show own_S p e below T119 m 78 #[oR r0, oR r1, oR r2, oR r3, oI 2, oI 2, oD 0, oV, oD 0, oV, oI 2] [] _
    refine XS.aloadN X119.here hx rfl (hb hby d1_78) rfl rfl ?_
    show own_S p e below T119 m 79 #[oR r0, oR r1, oR r2, oR r3, oI 2, oI 2, oD 0, oV, oD 0, oV, oI 2] [(.ref r0)] _
    refine XS.dload X119.here hx rfl (hb hby d1_79) rfl ?_
    show own_S p e below T119 m 81 #[oR r0, oR r1, oR r2, oR r3, oI 2, oI 2, oD 0, oV, oD 0, oV, oI 2] [(.double 0), (.ref r0)] _
    refine st124 _ ?_
    show own_S p e below T124 m 84 #[oR r0, oR r1, oR r2, oR r3, oI 2, oI 2, oD 0, oV, oD 0, oV, oI 2] [] _
    refine XS.aloadN X124.here hx rfl (hb hby d1_84) rfl rfl ?_
    show own_S p e below T124 m 85 #[oR r0, oR r1, oR r2, oR r3, oI 2, oI 2, oD 0, oV, oD 0, oV, oI 2] [(.ref r0)] _
    refine XS.dload X124.here hx rfl (hb hby d1_85) rfl ?_
    show own_S p e below T124 m 87 #[oR r0, oR r1, oR r2, oR r3, oI 2, oI 2, oD 0, oV, oD 0, oV, oI 2] [(.double 0), (.ref r0)] _
    refine st128 _ ?_
    show own_S p e below T128 m 90 #[oR r0, oR r1, oR r2, oR r3, oI 2, oI 2, oD 0, oV, oD 0, oV, oI 2] [] _
    exact X128.returnOut hx Bd.returns (hb hby d1_90) hr
  · show Q1_2_2 Z r0 r1 r2 r3 u0 u1 u2 u3 u4 u5 u6 kd ko h0 n0 _ T128.heap _
    rw [e128]
    exact ⟨rfl, N128, KK130, ((Fc123.wr W124).wr W128), ((((((Fw102.other W106 (Or.inr (sn21 hw))).other W110 (Or.inr (sn22 hw))).other W115 (Or.inr (sn23 hw))).other W119 (Or.inr (sn24 hw))).other W124 (Or.inr (sn25 hw))).other W128 (Or.inr (sn26 hw))), (((Fw115.other W119 (Or.inr (sn27 hw))).other W124 (Or.inr (sn28 hw))).other W128 (Or.inr (sn29 hw))), ((Fw119.other W124 (Or.inr (sn30 hw))).other W128 (Or.inr (sn31 hw)))⟩
theorem ef1_2_3 (m : MethodId) (r0 : Addr) (r1 : Addr) (r2 : Addr) (r3 : Addr) : entryFrame m #[(.ref r0), (.ref r1), (.ref r2), (.ref r3), (.int 2), (.int 3)] 11 = mkF m 0 #[.val (.ref r0), .val (.ref r1), .val (.ref r2), .val (.ref r3), .val (.int 2), .val (.int 3), .unset, .unset, .unset, .unset, .unset] [] := by first | (simp [entryFrame, mkF, argsToLocals, Value.category]; done) | rfl
def Q1_2_3 (Z : State) (r0 : Addr) (r1 : Addr) (r2 : Addr) (r3 : Addr) (u0 : Value) (u1 : Value) (u2 : Value) (u3 : Value) (u4 : Value) (u5 : Value) (u6 : Value) (kd : ClassId) (ko : ClassId) (h0 : Heap) (n0 : Nat) (v : Option Value) (h : Heap) (L : List Loc) : Prop := v = none ∧ Fr n0 L ∧ (Keep h0 h [r0]) ∧ (Exa Z h r0 "com/example/buurt/buurt/model/CrossTermFrequencies") ∧ (Fld Z h r0 "com/example/buurt/buurt/model/CrossTermFrequencies" "docs" "[I" (.ref r1)) ∧ (Fld Z h r0 "com/example/buurt/buurt/model/CrossTermFrequencies" "from" "I" (.int 2)) ∧ (Fld Z h r0 "com/example/buurt/buurt/model/CrossTermFrequencies" "to" "I" (.int 3))
set_option maxRecDepth 65536 in
set_option maxHeartbeats 40000000 in
theorem rm1_2_3 (l : Launch) (Z : State) (a0 : Array Value) (hw : ∀ d ∈ tables_1, d.before a0 Z = true) (ws : List Jvm.Cond) (r0 : Addr) (r1 : Addr) (r2 : Addr) (r3 : Addr) (u0 : Value) (u1 : Value) (u2 : Value) (u3 : Value) (u4 : Value) (u5 : Value) (u6 : Value) (kd : ClassId) (ko : ClassId) (h0 : Heap) (n0 : Nat) (Z0 : n0 ≤ h0.size) (F_docs_r0 : Fld Z h0 r0 "com/example/buurt/buurt/model/CrossTermFrequencies" "docs" "[I" u0) (F_tfs_r0 : Fld Z h0 r0 "com/example/buurt/buurt/model/CrossTermFrequencies" "tfs" "[D" u1) (F_occurs_r0 : Fld Z h0 r0 "com/example/buurt/buurt/model/CrossTermFrequencies" "occurs" "[I" u2) (F_from_r0 : Fld Z h0 r0 "com/example/buurt/buurt/model/CrossTermFrequencies" "from" "I" u3) (F_to_r0 : Fld Z h0 r0 "com/example/buurt/buurt/model/CrossTermFrequencies" "to" "I" u4) (F_documentFrequency_r0 : Fld Z h0 r0 "com/example/buurt/buurt/model/CrossTermFrequencies" "documentFrequency" "D" u5) (F_collectionFrequency_r0 : Fld Z h0 r0 "com/example/buurt/buurt/model/CrossTermFrequencies" "collectionFrequency" "D" u6) (E_r0 : Exa Z h0 r0 "com/example/buurt/buurt/model/CrossTermFrequencies") (g_r0 : n0 ≤ r0) (V_r2 : Arv Z h0 r2 kd .double (4 : Int32) [(.double 4607182418800017408), (.double 4611686018427387904), (.double 4613937818241073152), (.double 4616189618054758400)] (.double 0)) (V_r3 : Arv Z h0 r3 ko .int (4 : Int32) [(.int 1), (.int 1), (.int 1), (.int 1)] (.int 0)) (ne_r2_r0 : r2 ≠ r0) (ne_r3_r0 : r3 ≠ r0) :
    MetFree l (⟨"com/example/buurt/buurt/model/CrossTermFrequencies", "<init>", "([I[D[III)V"⟩ : MethodName) (head1 (Jvm.Cond.code (⟨"com/example/buurt/buurt/model/CrossTermFrequencies", "<init>", "([I[D[III)V"⟩ : MethodName) prog_27_method_1_code 11 none :: ws) ({ frames := 1, cells := 0, slots := 0, locals := 12 } : Room)) (fun a U => a = #[(.ref r0), (.ref r1), (.ref r2), (.ref r3), (.int 2), (.int 3)] ∧ Z.Warmed39 U.vm ∧ U.heap = h0) (fun _ _ _ _ _ => True) (fun _ U o U' => ∃ v L, o = .returned v ∧ Q1_2_3 Z r0 r1 r2 r3 u0 u1 u2 u3 u4 u5 u6 kd ko h0 n0 v U'.heap L ∧ FrameEnd U o U' L ({ frames := 1, cells := 0, slots := 0, locals := 12 } : Room).cells ({ frames := 1, cells := 0, slots := 0, locals := 12 } : Room).slots) := by
  refine MetFree.of_bodySF (plainFor_of_name pn0) hisR ?_
  intro p e s m args below meth c s₁ Bd hml0 hP hK
  obtain ⟨rfl, hZ, hh⟩ := hP
  have hx := Bd.exec
  have hby := Bd.bytes
  have hml : c.maxLocals = 11 := hml0
  have hown : s.vm.findClass "com/example/buurt/buurt/model/CrossTermFrequencies" = some m.cls := findClass_of_methodNamed Bd.named
  have hnm := (name_of_methodNamed Bd.named Bd.method).1
  have X0 : Stand p l e ({ frames := 1, cells := 0, slots := 0, locals := 12 } : Room) s m #[(.ref r0), (.ref r1), (.ref r2), (.ref r3), (.int 2), (.int 3)] below meth c s₁ [] 0 0 := Stand.of_body Bd
  have e0 : s₁.heap = h0 := by rw [← hh, Bd.state]; rfl
  have N0 := Fr.nil n0
  have pre0 : ∀ t, Steps p.tables e below (s₁.setTop (mkF m 0 #[.val (.ref r0), .val (.ref r1), .val (.ref r2), .val (.ref r3), .val (.int 2), .val (.int 3), .unset, .unset, .unset, .unset, .unset] [])) t → Steps p.tables e below (s₁.setTop (entryFrame m #[(.ref r0), (.ref r1), (.ref r2), (.ref r3), (.int 2), (.int 3)] 11)) t := fun t k => castTop (ef1_2_3 m r0 r1 r2 r3) k
  obtain ⟨T101, X101, e101, st101⟩ := initO X0 hx hZ hown (own_w hw 12 rfl) (own_w hw 13 rfl) (own_w hw 14 rfl) e0 (g := (mkF m 1 #[.val (.ref r0), .val (.ref r1), .val (.ref r2), .val (.ref r3), .val (.int 2), .val (.int 3), .unset, .unset, .unset, .unset, .unset] [(.ref r0)])) rfl (by rw [hml]; rfl) rfl (hb hby d1_1) (by decide) (W := 0) (by show 2 * 0 + _ ≤ _; exact Nat.le_of_eq rfl) (by decide)
  obtain ⟨T102, h102, X102, e102, W102, st102⟩ := putF X101 hx hZ hown (host := "") (Or.inl (own_w hw 15 rfl)) Via.refl e101 F_docs_r0 E_r0 (Or.inr ⟨(own_w hw 16 rfl), rfl, hnm⟩) (own_w hw 7 rfl) (ty := (.array .int)) (by decide) rfl rfl (g := (mkF m 6 #[.val (.ref r0), .val (.ref r1), .val (.ref r2), .val (.ref r3), .val (.int 2), .val (.int 3), .unset, .unset, .unset, .unset, .unset] [(.ref r1), (.ref r0)])) rfl rfl (hb hby d1_6)
  have Fw102 := F_docs_r0.same W102
  have N102 := Fr.snoc X102 N0 g_r0
  have ZZ103 : n0 ≤ h102.size := Nat.le_trans Z0 (Nat.le_of_eq W102.size.symm)
  have KK104 : Keep h0 h102 [r0] := (Keep.refl h0 [r0]).wr W102 (Or.inl (List.mem_of_getElem? (i := 0) rfl))
  have Fc105 := (F_tfs_r0.other W102 (Or.inr (sn0 hw)))
  obtain ⟨T106, h106, X106, e106, W106, st106⟩ := putF X102 hx hZ hown (host := "") (Or.inl (own_w hw 17 rfl)) Via.refl e102 Fc105 (E_r0.wr W102) (Or.inr ⟨(own_w hw 18 rfl), rfl, hnm⟩) (own_w hw 7 rfl) (ty := (.array .double)) (by decide) rfl rfl (g := (mkF m 11 #[.val (.ref r0), .val (.ref r1), .val (.ref r2), .val (.ref r3), .val (.int 2), .val (.int 3), .unset, .unset, .unset, .unset, .unset] [(.ref r2), (.ref r0)])) rfl rfl (hb hby d1_11)
  have Fw106 := Fc105.same W106
  have N106 := Fr.snoc X106 N102 g_r0
  have ZZ107 : n0 ≤ h106.size := Nat.le_trans ZZ103 (Nat.le_of_eq W106.size.symm)
  have KK108 : Keep h0 h106 [r0] := KK104.wr W106 (Or.inl (List.mem_of_getElem? (i := 0) rfl))
  have Fc109 := ((F_occurs_r0.other W102 (Or.inr (sn1 hw))).other W106 (Or.inr (sn2 hw)))
  obtain ⟨T110, h110, X110, e110, W110, st110⟩ := putF X106 hx hZ hown (host := "") (Or.inl (own_w hw 19 rfl)) Via.refl e106 Fc109 ((E_r0.wr W102).wr W106) (Or.inr ⟨(own_w hw 20 rfl), rfl, hnm⟩) (own_w hw 7 rfl) (ty := (.array .int)) (by decide) rfl rfl (g := (mkF m 16 #[.val (.ref r0), .val (.ref r1), .val (.ref r2), .val (.ref r3), .val (.int 2), .val (.int 3), .unset, .unset, .unset, .unset, .unset] [(.ref r3), (.ref r0)])) rfl rfl (hb hby d1_16)
  have Fw110 := Fc109.same W110
  have N110 := Fr.snoc X110 N106 g_r0
  have ZZ111 : n0 ≤ h110.size := Nat.le_trans ZZ107 (Nat.le_of_eq W110.size.symm)
  have KK112 : Keep h0 h110 [r0] := KK108.wr W110 (Or.inl (List.mem_of_getElem? (i := 0) rfl))
  have Fc113 := (((F_from_r0.other W102 (Or.inr (sn3 hw))).other W106 (Or.inr (sn4 hw))).other W110 (Or.inr (sn5 hw)))
  have Fc114 := (((E_r0.wr W102).wr W106).wr W110)
  obtain ⟨T115, h115, X115, e115, W115, st115⟩ := putF X110 hx hZ hown (host := "") (Or.inl (own_w hw 21 rfl)) Via.refl e110 Fc113 Fc114 (Or.inr ⟨(own_w hw 22 rfl), rfl, hnm⟩) (own_w hw 7 rfl) (ty := .int) (by decide) rfl rfl (g := (mkF m 22 #[.val (.ref r0), .val (.ref r1), .val (.ref r2), .val (.ref r3), .val (.int 2), .val (.int 3), .unset, .unset, .unset, .unset, .unset] [(.int 2), (.ref r0)])) rfl rfl (hb hby d1_22)
  have Fw115 := Fc113.same W115
  have N115 := Fr.snoc X115 N110 g_r0
  have ZZ116 : n0 ≤ h115.size := Nat.le_trans ZZ111 (Nat.le_of_eq W115.size.symm)
  have KK117 : Keep h0 h115 [r0] := KK112.wr W115 (Or.inl (List.mem_of_getElem? (i := 0) rfl))
  have Fc118 := ((((F_to_r0.other W102 (Or.inr (sn6 hw))).other W106 (Or.inr (sn7 hw))).other W110 (Or.inr (sn8 hw))).other W115 (Or.inr (sn9 hw)))
  obtain ⟨T119, h119, X119, e119, W119, st119⟩ := putF X115 hx hZ hown (host := "") (Or.inl (own_w hw 23 rfl)) Via.refl e115 Fc118 (Fc114.wr W115) (Or.inr ⟨(own_w hw 24 rfl), rfl, hnm⟩) (own_w hw 7 rfl) (ty := .int) (by decide) rfl rfl (g := (mkF m 28 #[.val (.ref r0), .val (.ref r1), .val (.ref r2), .val (.ref r3), .val (.int 2), .val (.int 3), .unset, .unset, .unset, .unset, .unset] [(.int 3), (.ref r0)])) rfl rfl (hb hby d1_28)
  have Fw119 := Fc118.same W119
  have N119 := Fr.snoc X119 N115 g_r0
  have ZZ120 : n0 ≤ h119.size := Nat.le_trans ZZ116 (Nat.le_of_eq W119.size.symm)
  have KK121 : Keep h0 h119 [r0] := KK117.wr W119 (Or.inl (List.mem_of_getElem? (i := 0) rfl))
  have Fc122 := (((((V_r2.other W102 ne_r2_r0).other W106 ne_r2_r0).other W110 ne_r2_r0).other W115 ne_r2_r0).other W119 ne_r2_r0)
  obtain ⟨cl123, Ar123, qk123, Sz123, Nz123, Hh123, Gg123⟩ := id Fc122
  have hin123 : ¬ ((2 : Int32) < 0 ∨ cl123.slots.size ≤ ((2 : Int32)).toNatClampNeg) := inb_of Sz123 ⟨by decide, by decide⟩
  have hat123 : cl123.slots[((2 : Int32)).toNatClampNeg]? = some (.double 4613937818241073152) := Has.at Hh123 hin123 rfl
  have Fc124 := (((((V_r3.other W102 ne_r3_r0).other W106 ne_r3_r0).other W110 ne_r3_r0).other W115 ne_r3_r0).other W119 ne_r3_r0)
  obtain ⟨cl125, Ar125, qk125, Sz125, Nz125, Hh125, Gg125⟩ := id Fc124
  have hin125 : ¬ ((2 : Int32) < 0 ∨ cl125.slots.size ≤ ((2 : Int32)).toNatClampNeg) := inb_of Sz125 ⟨by decide, by decide⟩
  have hat125 : cl125.slots[((2 : Int32)).toNatClampNeg]? = some (.int 1) := Has.at Hh125 hin125 rfl
  obtain ⟨cl126, Ar126, qk126, Sz126, Nz126, Hh126, Gg126⟩ := id Fc122
  have hin126 : ¬ ((2 : Int32) < 0 ∨ cl126.slots.size ≤ ((2 : Int32)).toNatClampNeg) := inb_of Sz126 ⟨by decide, by decide⟩
  have hat126 : cl126.slots[((2 : Int32)).toNatClampNeg]? = some (.double 4613937818241073152) := Has.at Hh126 hin126 rfl
  have Fc127 := (((((F_documentFrequency_r0.other W102 (Or.inr (sn10 hw))).other W106 (Or.inr (sn11 hw))).other W110 (Or.inr (sn12 hw))).other W115 (Or.inr (sn13 hw))).other W119 (Or.inr (sn14 hw)))
  have Fc128 := ((Fc114.wr W115).wr W119)
  obtain ⟨T129, h129, X129, e129, W129, st129⟩ := putF X119 hx hZ hown (host := "") (Or.inl (own_w hw 25 rfl)) Via.refl e119 Fc127 Fc128 (Or.inr ⟨(own_w hw 26 rfl), rfl, hnm⟩) (own_w hw 7 rfl) (ty := .double) (by decide) rfl rfl (g := (mkF m 81 #[.val (.ref r0), .val (.ref r1), .val (.ref r2), .val (.ref r3), .val (.int 2), .val (.int 3), .val (.double 4613937818241073152), .second, .val (.double 4613937818241073152), .second, .val (.int 3)] [(.double 4613937818241073152), (.ref r0)])) rfl rfl (hb hby d1_81)
  have Fw129 := Fc127.same W129
  have N129 := Fr.snoc X129 N119 g_r0
  have ZZ130 : n0 ≤ h129.size := Nat.le_trans ZZ120 (Nat.le_of_eq W129.size.symm)
  have KK131 : Keep h0 h129 [r0] := KK121.wr W129 (Or.inl (List.mem_of_getElem? (i := 0) rfl))
  have Fc132 := ((((((F_collectionFrequency_r0.other W102 (Or.inr (sn15 hw))).other W106 (Or.inr (sn16 hw))).other W110 (Or.inr (sn17 hw))).other W115 (Or.inr (sn18 hw))).other W119 (Or.inr (sn19 hw))).other W129 (Or.inr (sn20 hw)))
  obtain ⟨T133, h133, X133, e133, W133, st133⟩ := putF X129 hx hZ hown (host := "") (Or.inl (own_w hw 27 rfl)) Via.refl e129 Fc132 (Fc128.wr W129) (Or.inr ⟨(own_w hw 28 rfl), rfl, hnm⟩) (own_w hw 7 rfl) (ty := .double) (by decide) rfl rfl (g := (mkF m 87 #[.val (.ref r0), .val (.ref r1), .val (.ref r2), .val (.ref r3), .val (.int 2), .val (.int 3), .val (.double 4613937818241073152), .second, .val (.double 4613937818241073152), .second, .val (.int 3)] [(.double 4613937818241073152), (.ref r0)])) rfl rfl (hb hby d1_87)
  have Fw133 := Fc132.same W133
  have N133 := Fr.snoc X133 N129 g_r0
  have ZZ134 : n0 ≤ h133.size := Nat.le_trans ZZ130 (Nat.le_of_eq W133.size.symm)
  have KK135 : Keep h0 h133 [r0] := KK131.wr W133 (Or.inl (List.mem_of_getElem? (i := 0) rfl))
  obtain ⟨fs, hr, hrun, hended, hW, hsame⟩ := X133.leave (v := none) (fun _ => rfl)
  refine ⟨_, _, pre0 _ ?_, hrun, hended, _, _, rfl, ?_, ⟨_, rfl⟩, hW, hsame.mono (by decide) (by decide)⟩
  · show own_S p e below s₁ m 0 #[oR r0, oR r1, oR r2, oR r3, oI 2, oI 3, oU, oU, oU, oU, oU] [] _
    refine XS.aloadN X0.here hx rfl (hb hby d1_0) rfl rfl ?_
    show own_S p e below s₁ m 1 #[oR r0, oR r1, oR r2, oR r3, oI 2, oI 3, oU, oU, oU, oU, oU] [(.ref r0)] _
    refine st101 _ ?_
    show own_S p e below T101 m 4 #[oR r0, oR r1, oR r2, oR r3, oI 2, oI 3, oU, oU, oU, oU, oU] [] _
    refine XS.aloadN X101.here hx rfl (hb hby d1_4) rfl rfl ?_
    show own_S p e below T101 m 5 #[oR r0, oR r1, oR r2, oR r3, oI 2, oI 3, oU, oU, oU, oU, oU] [(.ref r0)] _
    refine XS.aloadN X101.here hx rfl (hb hby d1_5) rfl rfl ?_
    show own_S p e below T101 m 6 #[oR r0, oR r1, oR r2, oR r3, oI 2, oI 3, oU, oU, oU, oU, oU] [(.ref r1), (.ref r0)] _
    refine st102 _ ?_
    show own_S p e below T102 m 9 #[oR r0, oR r1, oR r2, oR r3, oI 2, oI 3, oU, oU, oU, oU, oU] [] _
    refine XS.aloadN X102.here hx rfl (hb hby d1_9) rfl rfl ?_
    show own_S p e below T102 m 10 #[oR r0, oR r1, oR r2, oR r3, oI 2, oI 3, oU, oU, oU, oU, oU] [(.ref r0)] _
    refine XS.aloadN X102.here hx rfl (hb hby d1_10) rfl rfl ?_
    show own_S p e below T102 m 11 #[oR r0, oR r1, oR r2, oR r3, oI 2, oI 3, oU, oU, oU, oU, oU] [(.ref r2), (.ref r0)] _
    refine st106 _ ?_
    show own_S p e below T106 m 14 #[oR r0, oR r1, oR r2, oR r3, oI 2, oI 3, oU, oU, oU, oU, oU] [] _
    refine XS.aloadN X106.here hx rfl (hb hby d1_14) rfl rfl ?_
    show own_S p e below T106 m 15 #[oR r0, oR r1, oR r2, oR r3, oI 2, oI 3, oU, oU, oU, oU, oU] [(.ref r0)] _
    refine XS.aloadN X106.here hx rfl (hb hby d1_15) rfl rfl ?_
    show own_S p e below T106 m 16 #[oR r0, oR r1, oR r2, oR r3, oI 2, oI 3, oU, oU, oU, oU, oU] [(.ref r3), (.ref r0)] _
    refine st110 _ ?_
    show own_S p e below T110 m 19 #[oR r0, oR r1, oR r2, oR r3, oI 2, oI 3, oU, oU, oU, oU, oU] [] _
    refine XS.aloadN X110.here hx rfl (hb hby d1_19) rfl rfl ?_
    show own_S p e below T110 m 20 #[oR r0, oR r1, oR r2, oR r3, oI 2, oI 3, oU, oU, oU, oU, oU] [(.ref r0)] _
    refine XS.iload X110.here hx rfl (hb hby d1_20) rfl ?_
    show own_S p e below T110 m 22 #[oR r0, oR r1, oR r2, oR r3, oI 2, oI 3, oU, oU, oU, oU, oU] [(.int 2), (.ref r0)] _
    refine st115 _ ?_
    show own_S p e below T115 m 25 #[oR r0, oR r1, oR r2, oR r3, oI 2, oI 3, oU, oU, oU, oU, oU] [] _
    refine XS.aloadN X115.here hx rfl (hb hby d1_25) rfl rfl ?_
    show own_S p e below T115 m 26 #[oR r0, oR r1, oR r2, oR r3, oI 2, oI 3, oU, oU, oU, oU, oU] [(.ref r0)] _
    refine XS.iload X115.here hx rfl (hb hby d1_26) rfl ?_
    show own_S p e below T115 m 28 #[oR r0, oR r1, oR r2, oR r3, oI 2, oI 3, oU, oU, oU, oU, oU] [(.int 3), (.ref r0)] _
    refine st119 _ ?_
    show own_S p e below T119 m 31 #[oR r0, oR r1, oR r2, oR r3, oI 2, oI 3, oU, oU, oU, oU, oU] [] _
    refine XS.dconst0 X119.here hx rfl (v := 0) (hb hby d1_31) rfl ?_
    show own_S p e below T119 m 32 #[oR r0, oR r1, oR r2, oR r3, oI 2, oI 3, oU, oU, oU, oU, oU] [(.double 0)] _
    refine XS.dstore X119.here hx rfl (hb hby d1_32) rfl (l' := #[.val (.ref r0), .val (.ref r1), .val (.ref r2), .val (.ref r3), .val (.int 2), .val (.int 3), .val (.double 0), .second, .unset, .unset, .unset]) rfl ?_
    show own_S p e below T119 m 34 #[oR r0, oR r1, oR r2, oR r3, oI 2, oI 3, oD 0, oV, oU, oU, oU] [] _
    refine XS.dconst0 X119.here hx rfl (v := 0) (hb hby d1_34) rfl ?_
    show own_S p e below T119 m 35 #[oR r0, oR r1, oR r2, oR r3, oI 2, oI 3, oD 0, oV, oU, oU, oU] [(.double 0)] _
    refine XS.dstore X119.here hx rfl (hb hby d1_35) rfl (l' := #[.val (.ref r0), .val (.ref r1), .val (.ref r2), .val (.ref r3), .val (.int 2), .val (.int 3), .val (.double 0), .second, .val (.double 0), .second, .unset]) rfl ?_
    show own_S p e below T119 m 37 #[oR r0, oR r1, oR r2, oR r3, oI 2, oI 3, oD 0, oV, oD 0, oV, oU] [] _
    refine XS.iload X119.here hx rfl (hb hby d1_37) rfl ?_
    show own_S p e below T119 m 39 #[oR r0, oR r1, oR r2, oR r3, oI 2, oI 3, oD 0, oV, oD 0, oV, oU] [(.int 2)] _
    refine XS.istore X119.here hx rfl (hb hby d1_39) rfl (l' := #[.val (.ref r0), .val (.ref r1), .val (.ref r2), .val (.ref r3), .val (.int 2), .val (.int 3), .val (.double 0), .second, .val (.double 0), .second, .val (.int 2)]) rfl ?_
    show own_S p e below T119 m 41 #[oR r0, oR r1, oR r2, oR r3, oI 2, oI 3, oD 0, oV, oD 0, oV, oI 2] [] _
    refine XS.iload X119.here hx rfl (hb hby d1_41) rfl ?_
    show own_S p e below T119 m 43 #[oR r0, oR r1, oR r2, oR r3, oI 2, oI 3, oD 0, oV, oD 0, oV, oI 2] [(.int 2)] _
    refine XS.iload X119.here hx rfl (hb hby d1_43) rfl ?_
    show own_S p e below T119 m 45 #[oR r0, oR r1, oR r2, oR r3, oI 2, oI 3, oD 0, oV, oD 0, oV, oI 2] [(.int 3), (.int 2)] _
    refine XS.icmpNo X119.here hx rfl (hb hby d1_45) rfl (tlt (by decide : (2 : Int32) < (3 : Int32))).2.1 ?_
    show own_S p e below T119 m 48 #[oR r0, oR r1, oR r2, oR r3, oI 2, oI 3, oD 0, oV, oD 0, oV, oI 2] [] _
    refine XS.dload X119.here hx rfl (hb hby d1_48) rfl ?_
    show own_S p e below T119 m 50 #[oR r0, oR r1, oR r2, oR r3, oI 2, oI 3, oD 0, oV, oD 0, oV, oI 2] [(.double 0)] _
    refine XS.aloadN X119.here hx rfl (hb hby d1_50) rfl rfl ?_
    show own_S p e below T119 m 51 #[oR r0, oR r1, oR r2, oR r3, oI 2, oI 3, oD 0, oV, oD 0, oV, oI 2] [(.ref r2), (.double 0)] _
    refine XS.iload X119.here hx rfl (hb hby d1_51) rfl ?_
    show own_S p e below T119 m 53 #[oR r0, oR r1, oR r2, oR r3, oI 2, oI 3, oD 0, oV, oD 0, oV, oI 2] [(.int 2), (.ref r2), (.double 0)] _
    refine X119.daload hx (j := (2 : Int32)) (v := (.double 4613937818241073152)) (by rw [e119]; exact Ar123.1) (State.isArrayOf_alike hZ.alike Ar123.2.1) Ar123.2.2 hin123 hat123 (g := (mkF m 53 #[.val (.ref r0), .val (.ref r1), .val (.ref r2), .val (.ref r3), .val (.int 2), .val (.int 3), .val (.double 0), .second, .val (.double 0), .second, .val (.int 2)] [(.int 2), (.ref r2), (.double 0)])) rfl rfl (hb hby d1_53) _ ?_
    show own_S p e below T119 m 54 #[oR r0, oR r1, oR r2, oR r3, oI 2, oI 3, oD 0, oV, oD 0, oV, oI 2] [(.double 4613937818241073152), (.double 0)] _
    refine XS.aloadN X119.here hx rfl (hb hby d1_54) rfl rfl ?_
    show own_S p e below T119 m 55 #[oR r0, oR r1, oR r2, oR r3, oI 2, oI 3, oD 0, oV, oD 0, oV, oI 2] [(.ref r3), (.double 4613937818241073152), (.double 0)] _
    refine XS.iload X119.here hx rfl (hb hby d1_55) rfl ?_
    show own_S p e below T119 m 57 #[oR r0, oR r1, oR r2, oR r3, oI 2, oI 3, oD 0, oV, oD 0, oV, oI 2] [(.int 2), (.ref r3), (.double 4613937818241073152), (.double 0)] _
    refine X119.iaload hx (j := (2 : Int32)) (v := (.int 1)) (by rw [e119]; exact Ar125.1) (State.isArrayOf_alike hZ.alike Ar125.2.1) Ar125.2.2 hin125 hat125 (g := (mkF m 57 #[.val (.ref r0), .val (.ref r1), .val (.ref r2), .val (.ref r3), .val (.int 2), .val (.int 3), .val (.double 0), .second, .val (.double 0), .second, .val (.int 2)] [(.int 2), (.ref r3), (.double 4613937818241073152), (.double 0)])) rfl rfl (hb hby d1_57) _ ?_
    show own_S p e below T119 m 58 #[oR r0, oR r1, oR r2, oR r3, oI 2, oI 3, oD 0, oV, oD 0, oV, oI 2] [(.int 1), (.double 4613937818241073152), (.double 0)] _
    refine XS.i2dS X119.here hx rfl (v := (4607182418800017408 : UInt64)) (hb hby d1_58) rfl (by decide +kernel) ?_
    show own_S p e below T119 m 59 #[oR r0, oR r1, oR r2, oR r3, oI 2, oI 3, oD 0, oV, oD 0, oV, oI 2] [(.double 4607182418800017408), (.double 4613937818241073152), (.double 0)] _
    refine XS.ddivS X119.here hx rfl (v := (4613937818241073152 : UInt64)) (hb hby d1_59) rfl (own_nnl (by decide +kernel : FP.ddiv (4613937818241073152 : UInt64) (4607182418800017408 : UInt64) = (4613937818241073152 : UInt64)) (by unfold NoNaN64; decide)) (by decide +kernel) ?_
    show own_S p e below T119 m 60 #[oR r0, oR r1, oR r2, oR r3, oI 2, oI 3, oD 0, oV, oD 0, oV, oI 2] [(.double 4613937818241073152), (.double 0)] _
    refine XS.daddS X119.here hx rfl (v := (4613937818241073152 : UInt64)) (hb hby d1_60) rfl (own_nnl (by decide +kernel : FP.dadd (0 : UInt64) (4613937818241073152 : UInt64) = (4613937818241073152 : UInt64)) (by unfold NoNaN64; decide)) (by decide +kernel) ?_
    show own_S p e below T119 m 61 #[oR r0, oR r1, oR r2, oR r3, oI 2, oI 3, oD 0, oV, oD 0, oV, oI 2] [(.double 4613937818241073152)] _
    refine XS.dstore X119.here hx rfl (hb hby d1_61) rfl (l' := #[.val (.ref r0), .val (.ref r1), .val (.ref r2), .val (.ref r3), .val (.int 2), .val (.int 3), .val (.double 4613937818241073152), .second, .val (.double 0), .second, .val (.int 2)]) rfl ?_
    show own_S p e below T119 m 63 #[oR r0, oR r1, oR r2, oR r3, oI 2, oI 3, oD 4613937818241073152, oV, oD 0, oV, oI 2] [] _
    refine XS.dload X119.here hx rfl (hb hby d1_63) rfl ?_
    show own_S p e below T119 m 65 #[oR r0, oR r1, oR r2, oR r3, oI 2, oI 3, oD 4613937818241073152, oV, oD 0, oV, oI 2] [(.double 0)] _
    refine XS.aloadN X119.here hx rfl (hb hby d1_65) rfl rfl ?_
    show own_S p e below T119 m 66 #[oR r0, oR r1, oR r2, oR r3, oI 2, oI 3, oD 4613937818241073152, oV, oD 0, oV, oI 2] [(.ref r2), (.double 0)] _
    refine XS.iload X119.here hx rfl (hb hby d1_66) rfl ?_
    show own_S p e below T119 m 68 #[oR r0, oR r1, oR r2, oR r3, oI 2, oI 3, oD 4613937818241073152, oV, oD 0, oV, oI 2] [(.int 2), (.ref r2), (.double 0)] _
    refine X119.daload hx (j := (2 : Int32)) (v := (.double 4613937818241073152)) (by rw [e119]; exact Ar126.1) (State.isArrayOf_alike hZ.alike Ar126.2.1) Ar126.2.2 hin126 hat126 (g := (mkF m 68 #[.val (.ref r0), .val (.ref r1), .val (.ref r2), .val (.ref r3), .val (.int 2), .val (.int 3), .val (.double 4613937818241073152), .second, .val (.double 0), .second, .val (.int 2)] [(.int 2), (.ref r2), (.double 0)])) rfl rfl (hb hby d1_68) _ ?_
    show own_S p e below T119 m 69 #[oR r0, oR r1, oR r2, oR r3, oI 2, oI 3, oD 4613937818241073152, oV, oD 0, oV, oI 2] [(.double 4613937818241073152), (.double 0)] _
    refine XS.daddS X119.here hx rfl (v := (4613937818241073152 : UInt64)) (hb hby d1_69) rfl (own_nnl (by decide +kernel : FP.dadd (0 : UInt64) (4613937818241073152 : UInt64) = (4613937818241073152 : UInt64)) (by unfold NoNaN64; decide)) (by decide +kernel) ?_
    show own_S p e below T119 m 70 #[oR r0, oR r1, oR r2, oR r3, oI 2, oI 3, oD 4613937818241073152, oV, oD 0, oV, oI 2] [(.double 4613937818241073152)] _
    refine XS.dstore X119.here hx rfl (hb hby d1_70) rfl (l' := #[.val (.ref r0), .val (.ref r1), .val (.ref r2), .val (.ref r3), .val (.int 2), .val (.int 3), .val (.double 4613937818241073152), .second, .val (.double 4613937818241073152), .second, .val (.int 2)]) rfl ?_
    show own_S p e below T119 m 72 #[oR r0, oR r1, oR r2, oR r3, oI 2, oI 3, oD 4613937818241073152, oV, oD 4613937818241073152, oV, oI 2] [] _
    refine XS.iinc X119.here hx rfl (hb hby d1_72) rfl (l' := #[.val (.ref r0), .val (.ref r1), .val (.ref r2), .val (.ref r3), .val (.int 2), .val (.int 3), .val (.double 4613937818241073152), .second, .val (.double 4613937818241073152), .second, .val (.int 3)]) rfl ?_
    show own_S p e below T119 m 75 #[oR r0, oR r1, oR r2, oR r3, oI 2, oI 3, oD 4613937818241073152, oV, oD 4613937818241073152, oV, oI 3] [] _
    refine XS.goto X119.here hx rfl (pc0 := 75) (pc' := 41) rfl (hb hby d1_75) (by decide) (by decide) ?_
    show own_S p e below T119 m 41 #[oR r0, oR r1, oR r2, oR r3, oI 2, oI 3, oD 4613937818241073152, oV, oD 4613937818241073152, oV, oI 3] [] _
    refine XS.iload X119.here hx rfl (hb hby d1_41) rfl ?_
    show own_S p e below T119 m 43 #[oR r0, oR r1, oR r2, oR r3, oI 2, oI 3, oD 4613937818241073152, oV, oD 4613937818241073152, oV, oI 3] [(.int 3)] _
    refine XS.iload X119.here hx rfl (hb hby d1_43) rfl ?_
    show own_S p e below T119 m 45 #[oR r0, oR r1, oR r2, oR r3, oI 2, oI 3, oD 4613937818241073152, oV, oD 4613937818241073152, oV, oI 3] [(.int 3), (.int 3)] _
    refine XS.icmpYes X119.here hx rfl (pc0 := 45) (pc' := 78) rfl (hb hby d1_45) rfl (flt (by decide : ¬ ((3 : Int32) < (3 : Int32)))).2.1 (by decide) (by decide) ?_
    show own_S p e below T119 m 78 #[oR r0, oR r1, oR r2, oR r3, oI 2, oI 3, oD 4613937818241073152, oV, oD 4613937818241073152, oV, oI 3] [] _
    refine XS.aloadN X119.here hx rfl (hb hby d1_78) rfl rfl ?_
    show own_S p e below T119 m 79 #[oR r0, oR r1, oR r2, oR r3, oI 2, oI 3, oD 4613937818241073152, oV, oD 4613937818241073152, oV, oI 3] [(.ref r0)] _
    refine XS.dload X119.here hx rfl (hb hby d1_79) rfl ?_
    show own_S p e below T119 m 81 #[oR r0, oR r1, oR r2, oR r3, oI 2, oI 3, oD 4613937818241073152, oV, oD 4613937818241073152, oV, oI 3] [(.double 4613937818241073152), (.ref r0)] _
    refine st129 _ ?_
    show own_S p e below T129 m 84 #[oR r0, oR r1, oR r2, oR r3, oI 2, oI 3, oD 4613937818241073152, oV, oD 4613937818241073152, oV, oI 3] [] _
    refine XS.aloadN X129.here hx rfl (hb hby d1_84) rfl rfl ?_
    show own_S p e below T129 m 85 #[oR r0, oR r1, oR r2, oR r3, oI 2, oI 3, oD 4613937818241073152, oV, oD 4613937818241073152, oV, oI 3] [(.ref r0)] _
    refine XS.dload X129.here hx rfl (hb hby d1_85) rfl ?_
    show own_S p e below T129 m 87 #[oR r0, oR r1, oR r2, oR r3, oI 2, oI 3, oD 4613937818241073152, oV, oD 4613937818241073152, oV, oI 3] [(.double 4613937818241073152), (.ref r0)] _
    refine st133 _ ?_
    show own_S p e below T133 m 90 #[oR r0, oR r1, oR r2, oR r3, oI 2, oI 3, oD 4613937818241073152, oV, oD 4613937818241073152, oV, oI 3] [] _
    exact X133.returnOut hx Bd.returns (hb hby d1_90) hr
  · show Q1_2_3 Z r0 r1 r2 r3 u0 u1 u2 u3 u4 u5 u6 kd ko h0 n0 _ T133.heap _
    rw [e133]
    exact ⟨rfl, N133, KK135, ((Fc128.wr W129).wr W133), ((((((Fw102.other W106 (Or.inr (sn21 hw))).other W110 (Or.inr (sn22 hw))).other W115 (Or.inr (sn23 hw))).other W119 (Or.inr (sn24 hw))).other W129 (Or.inr (sn25 hw))).other W133 (Or.inr (sn26 hw))), (((Fw115.other W119 (Or.inr (sn27 hw))).other W129 (Or.inr (sn28 hw))).other W133 (Or.inr (sn29 hw))), ((Fw119.other W129 (Or.inr (sn30 hw))).other W133 (Or.inr (sn31 hw)))⟩
theorem ef1_2_4 (m : MethodId) (r0 : Addr) (r1 : Addr) (r2 : Addr) (r3 : Addr) : entryFrame m #[(.ref r0), (.ref r1), (.ref r2), (.ref r3), (.int 2), (.int 4)] 11 = mkF m 0 #[.val (.ref r0), .val (.ref r1), .val (.ref r2), .val (.ref r3), .val (.int 2), .val (.int 4), .unset, .unset, .unset, .unset, .unset] [] := by first | (simp [entryFrame, mkF, argsToLocals, Value.category]; done) | rfl
def Q1_2_4 (Z : State) (r0 : Addr) (r1 : Addr) (r2 : Addr) (r3 : Addr) (u0 : Value) (u1 : Value) (u2 : Value) (u3 : Value) (u4 : Value) (u5 : Value) (u6 : Value) (kd : ClassId) (ko : ClassId) (h0 : Heap) (n0 : Nat) (v : Option Value) (h : Heap) (L : List Loc) : Prop := v = none ∧ Fr n0 L ∧ (Keep h0 h [r0]) ∧ (Exa Z h r0 "com/example/buurt/buurt/model/CrossTermFrequencies") ∧ (Fld Z h r0 "com/example/buurt/buurt/model/CrossTermFrequencies" "docs" "[I" (.ref r1)) ∧ (Fld Z h r0 "com/example/buurt/buurt/model/CrossTermFrequencies" "from" "I" (.int 2)) ∧ (Fld Z h r0 "com/example/buurt/buurt/model/CrossTermFrequencies" "to" "I" (.int 4))
set_option maxRecDepth 65536 in
set_option maxHeartbeats 40000000 in
theorem rm1_2_4 (l : Launch) (Z : State) (a0 : Array Value) (hw : ∀ d ∈ tables_1, d.before a0 Z = true) (ws : List Jvm.Cond) (r0 : Addr) (r1 : Addr) (r2 : Addr) (r3 : Addr) (u0 : Value) (u1 : Value) (u2 : Value) (u3 : Value) (u4 : Value) (u5 : Value) (u6 : Value) (kd : ClassId) (ko : ClassId) (h0 : Heap) (n0 : Nat) (Z0 : n0 ≤ h0.size) (F_docs_r0 : Fld Z h0 r0 "com/example/buurt/buurt/model/CrossTermFrequencies" "docs" "[I" u0) (F_tfs_r0 : Fld Z h0 r0 "com/example/buurt/buurt/model/CrossTermFrequencies" "tfs" "[D" u1) (F_occurs_r0 : Fld Z h0 r0 "com/example/buurt/buurt/model/CrossTermFrequencies" "occurs" "[I" u2) (F_from_r0 : Fld Z h0 r0 "com/example/buurt/buurt/model/CrossTermFrequencies" "from" "I" u3) (F_to_r0 : Fld Z h0 r0 "com/example/buurt/buurt/model/CrossTermFrequencies" "to" "I" u4) (F_documentFrequency_r0 : Fld Z h0 r0 "com/example/buurt/buurt/model/CrossTermFrequencies" "documentFrequency" "D" u5) (F_collectionFrequency_r0 : Fld Z h0 r0 "com/example/buurt/buurt/model/CrossTermFrequencies" "collectionFrequency" "D" u6) (E_r0 : Exa Z h0 r0 "com/example/buurt/buurt/model/CrossTermFrequencies") (g_r0 : n0 ≤ r0) (V_r2 : Arv Z h0 r2 kd .double (4 : Int32) [(.double 4607182418800017408), (.double 4611686018427387904), (.double 4613937818241073152), (.double 4616189618054758400)] (.double 0)) (V_r3 : Arv Z h0 r3 ko .int (4 : Int32) [(.int 1), (.int 1), (.int 1), (.int 1)] (.int 0)) (ne_r2_r0 : r2 ≠ r0) (ne_r3_r0 : r3 ≠ r0) :
    MetFree l (⟨"com/example/buurt/buurt/model/CrossTermFrequencies", "<init>", "([I[D[III)V"⟩ : MethodName) (head1 (Jvm.Cond.code (⟨"com/example/buurt/buurt/model/CrossTermFrequencies", "<init>", "([I[D[III)V"⟩ : MethodName) prog_27_method_1_code 11 none :: ws) ({ frames := 1, cells := 0, slots := 0, locals := 12 } : Room)) (fun a U => a = #[(.ref r0), (.ref r1), (.ref r2), (.ref r3), (.int 2), (.int 4)] ∧ Z.Warmed39 U.vm ∧ U.heap = h0) (fun _ _ _ _ _ => True) (fun _ U o U' => ∃ v L, o = .returned v ∧ Q1_2_4 Z r0 r1 r2 r3 u0 u1 u2 u3 u4 u5 u6 kd ko h0 n0 v U'.heap L ∧ FrameEnd U o U' L ({ frames := 1, cells := 0, slots := 0, locals := 12 } : Room).cells ({ frames := 1, cells := 0, slots := 0, locals := 12 } : Room).slots) := by
  refine MetFree.of_bodySF (plainFor_of_name pn0) hisR ?_
  intro p e s m args below meth c s₁ Bd hml0 hP hK
  obtain ⟨rfl, hZ, hh⟩ := hP
  have hx := Bd.exec
  have hby := Bd.bytes
  have hml : c.maxLocals = 11 := hml0
  have hown : s.vm.findClass "com/example/buurt/buurt/model/CrossTermFrequencies" = some m.cls := findClass_of_methodNamed Bd.named
  have hnm := (name_of_methodNamed Bd.named Bd.method).1
  have X0 : Stand p l e ({ frames := 1, cells := 0, slots := 0, locals := 12 } : Room) s m #[(.ref r0), (.ref r1), (.ref r2), (.ref r3), (.int 2), (.int 4)] below meth c s₁ [] 0 0 := Stand.of_body Bd
  have e0 : s₁.heap = h0 := by rw [← hh, Bd.state]; rfl
  have N0 := Fr.nil n0
  have pre0 : ∀ t, Steps p.tables e below (s₁.setTop (mkF m 0 #[.val (.ref r0), .val (.ref r1), .val (.ref r2), .val (.ref r3), .val (.int 2), .val (.int 4), .unset, .unset, .unset, .unset, .unset] [])) t → Steps p.tables e below (s₁.setTop (entryFrame m #[(.ref r0), (.ref r1), (.ref r2), (.ref r3), (.int 2), (.int 4)] 11)) t := fun t k => castTop (ef1_2_4 m r0 r1 r2 r3) k
  obtain ⟨T101, X101, e101, st101⟩ := initO X0 hx hZ hown (own_w hw 12 rfl) (own_w hw 13 rfl) (own_w hw 14 rfl) e0 (g := (mkF m 1 #[.val (.ref r0), .val (.ref r1), .val (.ref r2), .val (.ref r3), .val (.int 2), .val (.int 4), .unset, .unset, .unset, .unset, .unset] [(.ref r0)])) rfl (by rw [hml]; rfl) rfl (hb hby d1_1) (by decide) (W := 0) (by show 2 * 0 + _ ≤ _; exact Nat.le_of_eq rfl) (by decide)
  obtain ⟨T102, h102, X102, e102, W102, st102⟩ := putF X101 hx hZ hown (host := "") (Or.inl (own_w hw 15 rfl)) Via.refl e101 F_docs_r0 E_r0 (Or.inr ⟨(own_w hw 16 rfl), rfl, hnm⟩) (own_w hw 7 rfl) (ty := (.array .int)) (by decide) rfl rfl (g := (mkF m 6 #[.val (.ref r0), .val (.ref r1), .val (.ref r2), .val (.ref r3), .val (.int 2), .val (.int 4), .unset, .unset, .unset, .unset, .unset] [(.ref r1), (.ref r0)])) rfl rfl (hb hby d1_6)
  have Fw102 := F_docs_r0.same W102
  have N102 := Fr.snoc X102 N0 g_r0
  have ZZ103 : n0 ≤ h102.size := Nat.le_trans Z0 (Nat.le_of_eq W102.size.symm)
  have KK104 : Keep h0 h102 [r0] := (Keep.refl h0 [r0]).wr W102 (Or.inl (List.mem_of_getElem? (i := 0) rfl))
  have Fc105 := (F_tfs_r0.other W102 (Or.inr (sn0 hw)))
  obtain ⟨T106, h106, X106, e106, W106, st106⟩ := putF X102 hx hZ hown (host := "") (Or.inl (own_w hw 17 rfl)) Via.refl e102 Fc105 (E_r0.wr W102) (Or.inr ⟨(own_w hw 18 rfl), rfl, hnm⟩) (own_w hw 7 rfl) (ty := (.array .double)) (by decide) rfl rfl (g := (mkF m 11 #[.val (.ref r0), .val (.ref r1), .val (.ref r2), .val (.ref r3), .val (.int 2), .val (.int 4), .unset, .unset, .unset, .unset, .unset] [(.ref r2), (.ref r0)])) rfl rfl (hb hby d1_11)
  have Fw106 := Fc105.same W106
  have N106 := Fr.snoc X106 N102 g_r0
  have ZZ107 : n0 ≤ h106.size := Nat.le_trans ZZ103 (Nat.le_of_eq W106.size.symm)
  have KK108 : Keep h0 h106 [r0] := KK104.wr W106 (Or.inl (List.mem_of_getElem? (i := 0) rfl))
  have Fc109 := ((F_occurs_r0.other W102 (Or.inr (sn1 hw))).other W106 (Or.inr (sn2 hw)))
  obtain ⟨T110, h110, X110, e110, W110, st110⟩ := putF X106 hx hZ hown (host := "") (Or.inl (own_w hw 19 rfl)) Via.refl e106 Fc109 ((E_r0.wr W102).wr W106) (Or.inr ⟨(own_w hw 20 rfl), rfl, hnm⟩) (own_w hw 7 rfl) (ty := (.array .int)) (by decide) rfl rfl (g := (mkF m 16 #[.val (.ref r0), .val (.ref r1), .val (.ref r2), .val (.ref r3), .val (.int 2), .val (.int 4), .unset, .unset, .unset, .unset, .unset] [(.ref r3), (.ref r0)])) rfl rfl (hb hby d1_16)
  have Fw110 := Fc109.same W110
  have N110 := Fr.snoc X110 N106 g_r0
  have ZZ111 : n0 ≤ h110.size := Nat.le_trans ZZ107 (Nat.le_of_eq W110.size.symm)
  have KK112 : Keep h0 h110 [r0] := KK108.wr W110 (Or.inl (List.mem_of_getElem? (i := 0) rfl))
  have Fc113 := (((F_from_r0.other W102 (Or.inr (sn3 hw))).other W106 (Or.inr (sn4 hw))).other W110 (Or.inr (sn5 hw)))
  have Fc114 := (((E_r0.wr W102).wr W106).wr W110)
  obtain ⟨T115, h115, X115, e115, W115, st115⟩ := putF X110 hx hZ hown (host := "") (Or.inl (own_w hw 21 rfl)) Via.refl e110 Fc113 Fc114 (Or.inr ⟨(own_w hw 22 rfl), rfl, hnm⟩) (own_w hw 7 rfl) (ty := .int) (by decide) rfl rfl (g := (mkF m 22 #[.val (.ref r0), .val (.ref r1), .val (.ref r2), .val (.ref r3), .val (.int 2), .val (.int 4), .unset, .unset, .unset, .unset, .unset] [(.int 2), (.ref r0)])) rfl rfl (hb hby d1_22)
  have Fw115 := Fc113.same W115
  have N115 := Fr.snoc X115 N110 g_r0
  have ZZ116 : n0 ≤ h115.size := Nat.le_trans ZZ111 (Nat.le_of_eq W115.size.symm)
  have KK117 : Keep h0 h115 [r0] := KK112.wr W115 (Or.inl (List.mem_of_getElem? (i := 0) rfl))
  have Fc118 := ((((F_to_r0.other W102 (Or.inr (sn6 hw))).other W106 (Or.inr (sn7 hw))).other W110 (Or.inr (sn8 hw))).other W115 (Or.inr (sn9 hw)))
  obtain ⟨T119, h119, X119, e119, W119, st119⟩ := putF X115 hx hZ hown (host := "") (Or.inl (own_w hw 23 rfl)) Via.refl e115 Fc118 (Fc114.wr W115) (Or.inr ⟨(own_w hw 24 rfl), rfl, hnm⟩) (own_w hw 7 rfl) (ty := .int) (by decide) rfl rfl (g := (mkF m 28 #[.val (.ref r0), .val (.ref r1), .val (.ref r2), .val (.ref r3), .val (.int 2), .val (.int 4), .unset, .unset, .unset, .unset, .unset] [(.int 4), (.ref r0)])) rfl rfl (hb hby d1_28)
  have Fw119 := Fc118.same W119
  have N119 := Fr.snoc X119 N115 g_r0
  have ZZ120 : n0 ≤ h119.size := Nat.le_trans ZZ116 (Nat.le_of_eq W119.size.symm)
  have KK121 : Keep h0 h119 [r0] := KK117.wr W119 (Or.inl (List.mem_of_getElem? (i := 0) rfl))
  have Fc122 := (((((V_r2.other W102 ne_r2_r0).other W106 ne_r2_r0).other W110 ne_r2_r0).other W115 ne_r2_r0).other W119 ne_r2_r0)
  obtain ⟨cl123, Ar123, qk123, Sz123, Nz123, Hh123, Gg123⟩ := id Fc122
  have hin123 : ¬ ((2 : Int32) < 0 ∨ cl123.slots.size ≤ ((2 : Int32)).toNatClampNeg) := inb_of Sz123 ⟨by decide, by decide⟩
  have hat123 : cl123.slots[((2 : Int32)).toNatClampNeg]? = some (.double 4613937818241073152) := Has.at Hh123 hin123 rfl
  have Fc124 := (((((V_r3.other W102 ne_r3_r0).other W106 ne_r3_r0).other W110 ne_r3_r0).other W115 ne_r3_r0).other W119 ne_r3_r0)
  obtain ⟨cl125, Ar125, qk125, Sz125, Nz125, Hh125, Gg125⟩ := id Fc124
  have hin125 : ¬ ((2 : Int32) < 0 ∨ cl125.slots.size ≤ ((2 : Int32)).toNatClampNeg) := inb_of Sz125 ⟨by decide, by decide⟩
  have hat125 : cl125.slots[((2 : Int32)).toNatClampNeg]? = some (.int 1) := Has.at Hh125 hin125 rfl
  obtain ⟨cl126, Ar126, qk126, Sz126, Nz126, Hh126, Gg126⟩ := id Fc122
  have hin126 : ¬ ((2 : Int32) < 0 ∨ cl126.slots.size ≤ ((2 : Int32)).toNatClampNeg) := inb_of Sz126 ⟨by decide, by decide⟩
  have hat126 : cl126.slots[((2 : Int32)).toNatClampNeg]? = some (.double 4613937818241073152) := Has.at Hh126 hin126 rfl
  obtain ⟨cl127, Ar127, qk127, Sz127, Nz127, Hh127, Gg127⟩ := id Fc122
  have hin127 : ¬ ((3 : Int32) < 0 ∨ cl127.slots.size ≤ ((3 : Int32)).toNatClampNeg) := inb_of Sz127 ⟨by decide, by decide⟩
  have hat127 : cl127.slots[((3 : Int32)).toNatClampNeg]? = some (.double 4616189618054758400) := Has.at Hh127 hin127 rfl
  obtain ⟨cl128, Ar128, qk128, Sz128, Nz128, Hh128, Gg128⟩ := id Fc124
  have hin128 : ¬ ((3 : Int32) < 0 ∨ cl128.slots.size ≤ ((3 : Int32)).toNatClampNeg) := inb_of Sz128 ⟨by decide, by decide⟩
  have hat128 : cl128.slots[((3 : Int32)).toNatClampNeg]? = some (.int 1) := Has.at Hh128 hin128 rfl
  obtain ⟨cl129, Ar129, qk129, Sz129, Nz129, Hh129, Gg129⟩ := id Fc122
  have hin129 : ¬ ((3 : Int32) < 0 ∨ cl129.slots.size ≤ ((3 : Int32)).toNatClampNeg) := inb_of Sz129 ⟨by decide, by decide⟩
  have hat129 : cl129.slots[((3 : Int32)).toNatClampNeg]? = some (.double 4616189618054758400) := Has.at Hh129 hin129 rfl
  have Fc130 := (((((F_documentFrequency_r0.other W102 (Or.inr (sn10 hw))).other W106 (Or.inr (sn11 hw))).other W110 (Or.inr (sn12 hw))).other W115 (Or.inr (sn13 hw))).other W119 (Or.inr (sn14 hw)))
  have Fc131 := ((Fc114.wr W115).wr W119)
  obtain ⟨T132, h132, X132, e132, W132, st132⟩ := putF X119 hx hZ hown (host := "") (Or.inl (own_w hw 25 rfl)) Via.refl e119 Fc130 Fc131 (Or.inr ⟨(own_w hw 26 rfl), rfl, hnm⟩) (own_w hw 7 rfl) (ty := .double) (by decide) rfl rfl (g := (mkF m 81 #[.val (.ref r0), .val (.ref r1), .val (.ref r2), .val (.ref r3), .val (.int 2), .val (.int 4), .val (.double 4619567317775286272), .second, .val (.double 4619567317775286272), .second, .val (.int 4)] [(.double 4619567317775286272), (.ref r0)])) rfl rfl (hb hby d1_81)
  have Fw132 := Fc130.same W132
  have N132 := Fr.snoc X132 N119 g_r0
  have ZZ133 : n0 ≤ h132.size := Nat.le_trans ZZ120 (Nat.le_of_eq W132.size.symm)
  have KK134 : Keep h0 h132 [r0] := KK121.wr W132 (Or.inl (List.mem_of_getElem? (i := 0) rfl))
  have Fc135 := ((((((F_collectionFrequency_r0.other W102 (Or.inr (sn15 hw))).other W106 (Or.inr (sn16 hw))).other W110 (Or.inr (sn17 hw))).other W115 (Or.inr (sn18 hw))).other W119 (Or.inr (sn19 hw))).other W132 (Or.inr (sn20 hw)))
  obtain ⟨T136, h136, X136, e136, W136, st136⟩ := putF X132 hx hZ hown (host := "") (Or.inl (own_w hw 27 rfl)) Via.refl e132 Fc135 (Fc131.wr W132) (Or.inr ⟨(own_w hw 28 rfl), rfl, hnm⟩) (own_w hw 7 rfl) (ty := .double) (by decide) rfl rfl (g := (mkF m 87 #[.val (.ref r0), .val (.ref r1), .val (.ref r2), .val (.ref r3), .val (.int 2), .val (.int 4), .val (.double 4619567317775286272), .second, .val (.double 4619567317775286272), .second, .val (.int 4)] [(.double 4619567317775286272), (.ref r0)])) rfl rfl (hb hby d1_87)
  have Fw136 := Fc135.same W136
  have N136 := Fr.snoc X136 N132 g_r0
  have ZZ137 : n0 ≤ h136.size := Nat.le_trans ZZ133 (Nat.le_of_eq W136.size.symm)
  have KK138 : Keep h0 h136 [r0] := KK134.wr W136 (Or.inl (List.mem_of_getElem? (i := 0) rfl))
  obtain ⟨fs, hr, hrun, hended, hW, hsame⟩ := X136.leave (v := none) (fun _ => rfl)
  refine ⟨_, _, pre0 _ ?_, hrun, hended, _, _, rfl, ?_, ⟨_, rfl⟩, hW, hsame.mono (by decide) (by decide)⟩
  · show own_S p e below s₁ m 0 #[oR r0, oR r1, oR r2, oR r3, oI 2, oI 4, oU, oU, oU, oU, oU] [] _
    refine XS.aloadN X0.here hx rfl (hb hby d1_0) rfl rfl ?_
    show own_S p e below s₁ m 1 #[oR r0, oR r1, oR r2, oR r3, oI 2, oI 4, oU, oU, oU, oU, oU] [(.ref r0)] _
    refine st101 _ ?_
    show own_S p e below T101 m 4 #[oR r0, oR r1, oR r2, oR r3, oI 2, oI 4, oU, oU, oU, oU, oU] [] _
    refine XS.aloadN X101.here hx rfl (hb hby d1_4) rfl rfl ?_
    show own_S p e below T101 m 5 #[oR r0, oR r1, oR r2, oR r3, oI 2, oI 4, oU, oU, oU, oU, oU] [(.ref r0)] _
    refine XS.aloadN X101.here hx rfl (hb hby d1_5) rfl rfl ?_
    show own_S p e below T101 m 6 #[oR r0, oR r1, oR r2, oR r3, oI 2, oI 4, oU, oU, oU, oU, oU] [(.ref r1), (.ref r0)] _
    refine st102 _ ?_
    show own_S p e below T102 m 9 #[oR r0, oR r1, oR r2, oR r3, oI 2, oI 4, oU, oU, oU, oU, oU] [] _
    refine XS.aloadN X102.here hx rfl (hb hby d1_9) rfl rfl ?_
    show own_S p e below T102 m 10 #[oR r0, oR r1, oR r2, oR r3, oI 2, oI 4, oU, oU, oU, oU, oU] [(.ref r0)] _
    refine XS.aloadN X102.here hx rfl (hb hby d1_10) rfl rfl ?_
    show own_S p e below T102 m 11 #[oR r0, oR r1, oR r2, oR r3, oI 2, oI 4, oU, oU, oU, oU, oU] [(.ref r2), (.ref r0)] _
    refine st106 _ ?_
    show own_S p e below T106 m 14 #[oR r0, oR r1, oR r2, oR r3, oI 2, oI 4, oU, oU, oU, oU, oU] [] _
    refine XS.aloadN X106.here hx rfl (hb hby d1_14) rfl rfl ?_
    show own_S p e below T106 m 15 #[oR r0, oR r1, oR r2, oR r3, oI 2, oI 4, oU, oU, oU, oU, oU] [(.ref r0)] _
    refine XS.aloadN X106.here hx rfl (hb hby d1_15) rfl rfl ?_
    show own_S p e below T106 m 16 #[oR r0, oR r1, oR r2, oR r3, oI 2, oI 4, oU, oU, oU, oU, oU] [(.ref r3), (.ref r0)] _
    refine st110 _ ?_
    show own_S p e below T110 m 19 #[oR r0, oR r1, oR r2, oR r3, oI 2, oI 4, oU, oU, oU, oU, oU] [] _
    refine XS.aloadN X110.here hx rfl (hb hby d1_19) rfl rfl ?_
    show own_S p e below T110 m 20 #[oR r0, oR r1, oR r2, oR r3, oI 2, oI 4, oU, oU, oU, oU, oU] [(.ref r0)] _
    refine XS.iload X110.here hx rfl (hb hby d1_20) rfl ?_
    show own_S p e below T110 m 22 #[oR r0, oR r1, oR r2, oR r3, oI 2, oI 4, oU, oU, oU, oU, oU] [(.int 2), (.ref r0)] _
    refine st115 _ ?_
    show own_S p e below T115 m 25 #[oR r0, oR r1, oR r2, oR r3, oI 2, oI 4, oU, oU, oU, oU, oU] [] _
    refine XS.aloadN X115.here hx rfl (hb hby d1_25) rfl rfl ?_
    show own_S p e below T115 m 26 #[oR r0, oR r1, oR r2, oR r3, oI 2, oI 4, oU, oU, oU, oU, oU] [(.ref r0)] _
    refine XS.iload X115.here hx rfl (hb hby d1_26) rfl ?_
    show own_S p e below T115 m 28 #[oR r0, oR r1, oR r2, oR r3, oI 2, oI 4, oU, oU, oU, oU, oU] [(.int 4), (.ref r0)] _
    refine st119 _ ?_
    show own_S p e below T119 m 31 #[oR r0, oR r1, oR r2, oR r3, oI 2, oI 4, oU, oU, oU, oU, oU] [] _
    refine XS.dconst0 X119.here hx rfl (v := 0) (hb hby d1_31) rfl ?_
    show own_S p e below T119 m 32 #[oR r0, oR r1, oR r2, oR r3, oI 2, oI 4, oU, oU, oU, oU, oU] [(.double 0)] _
    refine XS.dstore X119.here hx rfl (hb hby d1_32) rfl (l' := #[.val (.ref r0), .val (.ref r1), .val (.ref r2), .val (.ref r3), .val (.int 2), .val (.int 4), .val (.double 0), .second, .unset, .unset, .unset]) rfl ?_
    show own_S p e below T119 m 34 #[oR r0, oR r1, oR r2, oR r3, oI 2, oI 4, oD 0, oV, oU, oU, oU] [] _
    refine XS.dconst0 X119.here hx rfl (v := 0) (hb hby d1_34) rfl ?_
    show own_S p e below T119 m 35 #[oR r0, oR r1, oR r2, oR r3, oI 2, oI 4, oD 0, oV, oU, oU, oU] [(.double 0)] _
    refine XS.dstore X119.here hx rfl (hb hby d1_35) rfl (l' := #[.val (.ref r0), .val (.ref r1), .val (.ref r2), .val (.ref r3), .val (.int 2), .val (.int 4), .val (.double 0), .second, .val (.double 0), .second, .unset]) rfl ?_
    show own_S p e below T119 m 37 #[oR r0, oR r1, oR r2, oR r3, oI 2, oI 4, oD 0, oV, oD 0, oV, oU] [] _
    refine XS.iload X119.here hx rfl (hb hby d1_37) rfl ?_
    show own_S p e below T119 m 39 #[oR r0, oR r1, oR r2, oR r3, oI 2, oI 4, oD 0, oV, oD 0, oV, oU] [(.int 2)] _
    refine XS.istore X119.here hx rfl (hb hby d1_39) rfl (l' := #[.val (.ref r0), .val (.ref r1), .val (.ref r2), .val (.ref r3), .val (.int 2), .val (.int 4), .val (.double 0), .second, .val (.double 0), .second, .val (.int 2)]) rfl ?_
    show own_S p e below T119 m 41 #[oR r0, oR r1, oR r2, oR r3, oI 2, oI 4, oD 0, oV, oD 0, oV, oI 2] [] _
    refine XS.iload X119.here hx rfl (hb hby d1_41) rfl ?_
    show own_S p e below T119 m 43 #[oR r0, oR r1, oR r2, oR r3, oI 2, oI 4, oD 0, oV, oD 0, oV, oI 2] [(.int 2)] _
    refine XS.iload X119.here hx rfl (hb hby d1_43) rfl ?_
    show own_S p e below T119 m 45 #[oR r0, oR r1, oR r2, oR r3, oI 2, oI 4, oD 0, oV, oD 0, oV, oI 2] [(.int 4), (.int 2)] _
    refine XS.icmpNo X119.here hx rfl (hb hby d1_45) rfl (tlt (by decide : (2 : Int32) < (4 : Int32))).2.1 ?_
    show own_S p e below T119 m 48 #[oR r0, oR r1, oR r2, oR r3, oI 2, oI 4, oD 0, oV, oD 0, oV, oI 2] [] _
    refine XS.dload X119.here hx rfl (hb hby d1_48) rfl ?_
    show own_S p e below T119 m 50 #[oR r0, oR r1, oR r2, oR r3, oI 2, oI 4, oD 0, oV, oD 0, oV, oI 2] [(.double 0)] _
    refine XS.aloadN X119.here hx rfl (hb hby d1_50) rfl rfl ?_
    show own_S p e below T119 m 51 #[oR r0, oR r1, oR r2, oR r3, oI 2, oI 4, oD 0, oV, oD 0, oV, oI 2] [(.ref r2), (.double 0)] _
    refine XS.iload X119.here hx rfl (hb hby d1_51) rfl ?_
    show own_S p e below T119 m 53 #[oR r0, oR r1, oR r2, oR r3, oI 2, oI 4, oD 0, oV, oD 0, oV, oI 2] [(.int 2), (.ref r2), (.double 0)] _
    refine X119.daload hx (j := (2 : Int32)) (v := (.double 4613937818241073152)) (by rw [e119]; exact Ar123.1) (State.isArrayOf_alike hZ.alike Ar123.2.1) Ar123.2.2 hin123 hat123 (g := (mkF m 53 #[.val (.ref r0), .val (.ref r1), .val (.ref r2), .val (.ref r3), .val (.int 2), .val (.int 4), .val (.double 0), .second, .val (.double 0), .second, .val (.int 2)] [(.int 2), (.ref r2), (.double 0)])) rfl rfl (hb hby d1_53) _ ?_
    show own_S p e below T119 m 54 #[oR r0, oR r1, oR r2, oR r3, oI 2, oI 4, oD 0, oV, oD 0, oV, oI 2] [(.double 4613937818241073152), (.double 0)] _
    refine XS.aloadN X119.here hx rfl (hb hby d1_54) rfl rfl ?_
    show own_S p e below T119 m 55 #[oR r0, oR r1, oR r2, oR r3, oI 2, oI 4, oD 0, oV, oD 0, oV, oI 2] [(.ref r3), (.double 4613937818241073152), (.double 0)] _
    refine XS.iload X119.here hx rfl (hb hby d1_55) rfl ?_
    show own_S p e below T119 m 57 #[oR r0, oR r1, oR r2, oR r3, oI 2, oI 4, oD 0, oV, oD 0, oV, oI 2] [(.int 2), (.ref r3), (.double 4613937818241073152), (.double 0)] _
    refine X119.iaload hx (j := (2 : Int32)) (v := (.int 1)) (by rw [e119]; exact Ar125.1) (State.isArrayOf_alike hZ.alike Ar125.2.1) Ar125.2.2 hin125 hat125 (g := (mkF m 57 #[.val (.ref r0), .val (.ref r1), .val (.ref r2), .val (.ref r3), .val (.int 2), .val (.int 4), .val (.double 0), .second, .val (.double 0), .second, .val (.int 2)] [(.int 2), (.ref r3), (.double 4613937818241073152), (.double 0)])) rfl rfl (hb hby d1_57) _ ?_
    show own_S p e below T119 m 58 #[oR r0, oR r1, oR r2, oR r3, oI 2, oI 4, oD 0, oV, oD 0, oV, oI 2] [(.int 1), (.double 4613937818241073152), (.double 0)] _
    refine XS.i2dS X119.here hx rfl (v := (4607182418800017408 : UInt64)) (hb hby d1_58) rfl (by decide +kernel) ?_
    show own_S p e below T119 m 59 #[oR r0, oR r1, oR r2, oR r3, oI 2, oI 4, oD 0, oV, oD 0, oV, oI 2] [(.double 4607182418800017408), (.double 4613937818241073152), (.double 0)] _
    refine XS.ddivS X119.here hx rfl (v := (4613937818241073152 : UInt64)) (hb hby d1_59) rfl (own_nnl (by decide +kernel : FP.ddiv (4613937818241073152 : UInt64) (4607182418800017408 : UInt64) = (4613937818241073152 : UInt64)) (by unfold NoNaN64; decide)) (by decide +kernel) ?_
    show own_S p e below T119 m 60 #[oR r0, oR r1, oR r2, oR r3, oI 2, oI 4, oD 0, oV, oD 0, oV, oI 2] [(.double 4613937818241073152), (.double 0)] _
    refine XS.daddS X119.here hx rfl (v := (4613937818241073152 : UInt64)) (hb hby d1_60) rfl (own_nnl (by decide +kernel : FP.dadd (0 : UInt64) (4613937818241073152 : UInt64) = (4613937818241073152 : UInt64)) (by unfold NoNaN64; decide)) (by decide +kernel) ?_
    show own_S p e below T119 m 61 #[oR r0, oR r1, oR r2, oR r3, oI 2, oI 4, oD 0, oV, oD 0, oV, oI 2] [(.double 4613937818241073152)] _
    refine XS.dstore X119.here hx rfl (hb hby d1_61) rfl (l' := #[.val (.ref r0), .val (.ref r1), .val (.ref r2), .val (.ref r3), .val (.int 2), .val (.int 4), .val (.double 4613937818241073152), .second, .val (.double 0), .second, .val (.int 2)]) rfl ?_
    show own_S p e below T119 m 63 #[oR r0, oR r1, oR r2, oR r3, oI 2, oI 4, oD 4613937818241073152, oV, oD 0, oV, oI 2] [] _
    refine XS.dload X119.here hx rfl (hb hby d1_63) rfl ?_
    show own_S p e below T119 m 65 #[oR r0, oR r1, oR r2, oR r3, oI 2, oI 4, oD 4613937818241073152, oV, oD 0, oV, oI 2] [(.double 0)] _
    refine XS.aloadN X119.here hx rfl (hb hby d1_65) rfl rfl ?_
    show own_S p e below T119 m 66 #[oR r0, oR r1, oR r2, oR r3, oI 2, oI 4, oD 4613937818241073152, oV, oD 0, oV, oI 2] [(.ref r2), (.double 0)] _
    refine XS.iload X119.here hx rfl (hb hby d1_66) rfl ?_
    show own_S p e below T119 m 68 #[oR r0, oR r1, oR r2, oR r3, oI 2, oI 4, oD 4613937818241073152, oV, oD 0, oV, oI 2] [(.int 2), (.ref r2), (.double 0)] _
    refine X119.daload hx (j := (2 : Int32)) (v := (.double 4613937818241073152)) (by rw [e119]; exact Ar126.1) (State.isArrayOf_alike hZ.alike Ar126.2.1) Ar126.2.2 hin126 hat126 (g := (mkF m 68 #[.val (.ref r0), .val (.ref r1), .val (.ref r2), .val (.ref r3), .val (.int 2), .val (.int 4), .val (.double 4613937818241073152), .second, .val (.double 0), .second, .val (.int 2)] [(.int 2), (.ref r2), (.double 0)])) rfl rfl (hb hby d1_68) _ ?_
    show own_S p e below T119 m 69 #[oR r0, oR r1, oR r2, oR r3, oI 2, oI 4, oD 4613937818241073152, oV, oD 0, oV, oI 2] [(.double 4613937818241073152), (.double 0)] _
    refine XS.daddS X119.here hx rfl (v := (4613937818241073152 : UInt64)) (hb hby d1_69) rfl (own_nnl (by decide +kernel : FP.dadd (0 : UInt64) (4613937818241073152 : UInt64) = (4613937818241073152 : UInt64)) (by unfold NoNaN64; decide)) (by decide +kernel) ?_
    show own_S p e below T119 m 70 #[oR r0, oR r1, oR r2, oR r3, oI 2, oI 4, oD 4613937818241073152, oV, oD 0, oV, oI 2] [(.double 4613937818241073152)] _
    refine XS.dstore X119.here hx rfl (hb hby d1_70) rfl (l' := #[.val (.ref r0), .val (.ref r1), .val (.ref r2), .val (.ref r3), .val (.int 2), .val (.int 4), .val (.double 4613937818241073152), .second, .val (.double 4613937818241073152), .second, .val (.int 2)]) rfl ?_
    show own_S p e below T119 m 72 #[oR r0, oR r1, oR r2, oR r3, oI 2, oI 4, oD 4613937818241073152, oV, oD 4613937818241073152, oV, oI 2] [] _
    refine XS.iinc X119.here hx rfl (hb hby d1_72) rfl (l' := #[.val (.ref r0), .val (.ref r1), .val (.ref r2), .val (.ref r3), .val (.int 2), .val (.int 4), .val (.double 4613937818241073152), .second, .val (.double 4613937818241073152), .second, .val (.int 3)]) rfl ?_
    show own_S p e below T119 m 75 #[oR r0, oR r1, oR r2, oR r3, oI 2, oI 4, oD 4613937818241073152, oV, oD 4613937818241073152, oV, oI 3] [] _
    refine XS.goto X119.here hx rfl (pc0 := 75) (pc' := 41) rfl (hb hby d1_75) (by decide) (by decide) ?_
    show own_S p e below T119 m 41 #[oR r0, oR r1, oR r2, oR r3, oI 2, oI 4, oD 4613937818241073152, oV, oD 4613937818241073152, oV, oI 3] [] _
    refine XS.iload X119.here hx rfl (hb hby d1_41) rfl ?_
    show own_S p e below T119 m 43 #[oR r0, oR r1, oR r2, oR r3, oI 2, oI 4, oD 4613937818241073152, oV, oD 4613937818241073152, oV, oI 3] [(.int 3)] _
    refine XS.iload X119.here hx rfl (hb hby d1_43) rfl ?_
    show own_S p e below T119 m 45 #[oR r0, oR r1, oR r2, oR r3, oI 2, oI 4, oD 4613937818241073152, oV, oD 4613937818241073152, oV, oI 3] [(.int 4), (.int 3)] _
    refine XS.icmpNo X119.here hx rfl (hb hby d1_45) rfl (tlt (by decide : (3 : Int32) < (4 : Int32))).2.1 ?_
    show own_S p e below T119 m 48 #[oR r0, oR r1, oR r2, oR r3, oI 2, oI 4, oD 4613937818241073152, oV, oD 4613937818241073152, oV, oI 3] [] _
    refine XS.dload X119.here hx rfl (hb hby d1_48) rfl ?_
    show own_S p e below T119 m 50 #[oR r0, oR r1, oR r2, oR r3, oI 2, oI 4, oD 4613937818241073152, oV, oD 4613937818241073152, oV, oI 3] [(.double 4613937818241073152)] _
    refine XS.aloadN X119.here hx rfl (hb hby d1_50) rfl rfl ?_
    show own_S p e below T119 m 51 #[oR r0, oR r1, oR r2, oR r3, oI 2, oI 4, oD 4613937818241073152, oV, oD 4613937818241073152, oV, oI 3] [(.ref r2), (.double 4613937818241073152)] _
    refine XS.iload X119.here hx rfl (hb hby d1_51) rfl ?_
    show own_S p e below T119 m 53 #[oR r0, oR r1, oR r2, oR r3, oI 2, oI 4, oD 4613937818241073152, oV, oD 4613937818241073152, oV, oI 3] [(.int 3), (.ref r2), (.double 4613937818241073152)] _
    refine X119.daload hx (j := (3 : Int32)) (v := (.double 4616189618054758400)) (by rw [e119]; exact Ar127.1) (State.isArrayOf_alike hZ.alike Ar127.2.1) Ar127.2.2 hin127 hat127 (g := (mkF m 53 #[.val (.ref r0), .val (.ref r1), .val (.ref r2), .val (.ref r3), .val (.int 2), .val (.int 4), .val (.double 4613937818241073152), .second, .val (.double 4613937818241073152), .second, .val (.int 3)] [(.int 3), (.ref r2), (.double 4613937818241073152)])) rfl rfl (hb hby d1_53) _ ?_
    show own_S p e below T119 m 54 #[oR r0, oR r1, oR r2, oR r3, oI 2, oI 4, oD 4613937818241073152, oV, oD 4613937818241073152, oV, oI 3] [(.double 4616189618054758400), (.double 4613937818241073152)] _
    refine XS.aloadN X119.here hx rfl (hb hby d1_54) rfl rfl ?_
    show own_S p e below T119 m 55 #[oR r0, oR r1, oR r2, oR r3, oI 2, oI 4, oD 4613937818241073152, oV, oD 4613937818241073152, oV, oI 3] [(.ref r3), (.double 4616189618054758400), (.double 4613937818241073152)] _
    refine XS.iload X119.here hx rfl (hb hby d1_55) rfl ?_
    show own_S p e below T119 m 57 #[oR r0, oR r1, oR r2, oR r3, oI 2, oI 4, oD 4613937818241073152, oV, oD 4613937818241073152, oV, oI 3] [(.int 3), (.ref r3), (.double 4616189618054758400), (.double 4613937818241073152)] _
    refine X119.iaload hx (j := (3 : Int32)) (v := (.int 1)) (by rw [e119]; exact Ar128.1) (State.isArrayOf_alike hZ.alike Ar128.2.1) Ar128.2.2 hin128 hat128 (g := (mkF m 57 #[.val (.ref r0), .val (.ref r1), .val (.ref r2), .val (.ref r3), .val (.int 2), .val (.int 4), .val (.double 4613937818241073152), .second, .val (.double 4613937818241073152), .second, .val (.int 3)] [(.int 3), (.ref r3), (.double 4616189618054758400), (.double 4613937818241073152)])) rfl rfl (hb hby d1_57) _ ?_
    show own_S p e below T119 m 58 #[oR r0, oR r1, oR r2, oR r3, oI 2, oI 4, oD 4613937818241073152, oV, oD 4613937818241073152, oV, oI 3] [(.int 1), (.double 4616189618054758400), (.double 4613937818241073152)] _
    refine XS.i2dS X119.here hx rfl (v := (4607182418800017408 : UInt64)) (hb hby d1_58) rfl (by decide +kernel) ?_
    show own_S p e below T119 m 59 #[oR r0, oR r1, oR r2, oR r3, oI 2, oI 4, oD 4613937818241073152, oV, oD 4613937818241073152, oV, oI 3] [(.double 4607182418800017408), (.double 4616189618054758400), (.double 4613937818241073152)] _
    refine XS.ddivS X119.here hx rfl (v := (4616189618054758400 : UInt64)) (hb hby d1_59) rfl (own_nnl (by decide +kernel : FP.ddiv (4616189618054758400 : UInt64) (4607182418800017408 : UInt64) = (4616189618054758400 : UInt64)) (by unfold NoNaN64; decide)) (by decide +kernel) ?_
    show own_S p e below T119 m 60 #[oR r0, oR r1, oR r2, oR r3, oI 2, oI 4, oD 4613937818241073152, oV, oD 4613937818241073152, oV, oI 3] [(.double 4616189618054758400), (.double 4613937818241073152)] _
    refine XS.daddS X119.here hx rfl (v := (4619567317775286272 : UInt64)) (hb hby d1_60) rfl (own_nnl (by decide +kernel : FP.dadd (4613937818241073152 : UInt64) (4616189618054758400 : UInt64) = (4619567317775286272 : UInt64)) (by unfold NoNaN64; decide)) (by decide +kernel) ?_
    show own_S p e below T119 m 61 #[oR r0, oR r1, oR r2, oR r3, oI 2, oI 4, oD 4613937818241073152, oV, oD 4613937818241073152, oV, oI 3] [(.double 4619567317775286272)] _
    refine XS.dstore X119.here hx rfl (hb hby d1_61) rfl (l' := #[.val (.ref r0), .val (.ref r1), .val (.ref r2), .val (.ref r3), .val (.int 2), .val (.int 4), .val (.double 4619567317775286272), .second, .val (.double 4613937818241073152), .second, .val (.int 3)]) rfl ?_
    show own_S p e below T119 m 63 #[oR r0, oR r1, oR r2, oR r3, oI 2, oI 4, oD 4619567317775286272, oV, oD 4613937818241073152, oV, oI 3] [] _
    refine XS.dload X119.here hx rfl (hb hby d1_63) rfl ?_
    show own_S p e below T119 m 65 #[oR r0, oR r1, oR r2, oR r3, oI 2, oI 4, oD 4619567317775286272, oV, oD 4613937818241073152, oV, oI 3] [(.double 4613937818241073152)] _
    refine XS.aloadN X119.here hx rfl (hb hby d1_65) rfl rfl ?_
    show own_S p e below T119 m 66 #[oR r0, oR r1, oR r2, oR r3, oI 2, oI 4, oD 4619567317775286272, oV, oD 4613937818241073152, oV, oI 3] [(.ref r2), (.double 4613937818241073152)] _
    refine XS.iload X119.here hx rfl (hb hby d1_66) rfl ?_
    show own_S p e below T119 m 68 #[oR r0, oR r1, oR r2, oR r3, oI 2, oI 4, oD 4619567317775286272, oV, oD 4613937818241073152, oV, oI 3] [(.int 3), (.ref r2), (.double 4613937818241073152)] _
    refine X119.daload hx (j := (3 : Int32)) (v := (.double 4616189618054758400)) (by rw [e119]; exact Ar129.1) (State.isArrayOf_alike hZ.alike Ar129.2.1) Ar129.2.2 hin129 hat129 (g := (mkF m 68 #[.val (.ref r0), .val (.ref r1), .val (.ref r2), .val (.ref r3), .val (.int 2), .val (.int 4), .val (.double 4619567317775286272), .second, .val (.double 4613937818241073152), .second, .val (.int 3)] [(.int 3), (.ref r2), (.double 4613937818241073152)])) rfl rfl (hb hby d1_68) _ ?_
    show own_S p e below T119 m 69 #[oR r0, oR r1, oR r2, oR r3, oI 2, oI 4, oD 4619567317775286272, oV, oD 4613937818241073152, oV, oI 3] [(.double 4616189618054758400), (.double 4613937818241073152)] _
    refine XS.daddS X119.here hx rfl (v := (4619567317775286272 : UInt64)) (hb hby d1_69) rfl (own_nnl (by decide +kernel : FP.dadd (4613937818241073152 : UInt64) (4616189618054758400 : UInt64) = (4619567317775286272 : UInt64)) (by unfold NoNaN64; decide)) (by decide +kernel) ?_
    show own_S p e below T119 m 70 #[oR r0, oR r1, oR r2, oR r3, oI 2, oI 4, oD 4619567317775286272, oV, oD 4613937818241073152, oV, oI 3] [(.double 4619567317775286272)] _
    refine XS.dstore X119.here hx rfl (hb hby d1_70) rfl (l' := #[.val (.ref r0), .val (.ref r1), .val (.ref r2), .val (.ref r3), .val (.int 2), .val (.int 4), .val (.double 4619567317775286272), .second, .val (.double 4619567317775286272), .second, .val (.int 3)]) rfl ?_
    show own_S p e below T119 m 72 #[oR r0, oR r1, oR r2, oR r3, oI 2, oI 4, oD 4619567317775286272, oV, oD 4619567317775286272, oV, oI 3] [] _
    refine XS.iinc X119.here hx rfl (hb hby d1_72) rfl (l' := #[.val (.ref r0), .val (.ref r1), .val (.ref r2), .val (.ref r3), .val (.int 2), .val (.int 4), .val (.double 4619567317775286272), .second, .val (.double 4619567317775286272), .second, .val (.int 4)]) rfl ?_
    show own_S p e below T119 m 75 #[oR r0, oR r1, oR r2, oR r3, oI 2, oI 4, oD 4619567317775286272, oV, oD 4619567317775286272, oV, oI 4] [] _
    refine XS.goto X119.here hx rfl (pc0 := 75) (pc' := 41) rfl (hb hby d1_75) (by decide) (by decide) ?_
    show own_S p e below T119 m 41 #[oR r0, oR r1, oR r2, oR r3, oI 2, oI 4, oD 4619567317775286272, oV, oD 4619567317775286272, oV, oI 4] [] _
    refine XS.iload X119.here hx rfl (hb hby d1_41) rfl ?_
    show own_S p e below T119 m 43 #[oR r0, oR r1, oR r2, oR r3, oI 2, oI 4, oD 4619567317775286272, oV, oD 4619567317775286272, oV, oI 4] [(.int 4)] _
    refine XS.iload X119.here hx rfl (hb hby d1_43) rfl ?_
    show own_S p e below T119 m 45 #[oR r0, oR r1, oR r2, oR r3, oI 2, oI 4, oD 4619567317775286272, oV, oD 4619567317775286272, oV, oI 4] [(.int 4), (.int 4)] _
    refine XS.icmpYes X119.here hx rfl (pc0 := 45) (pc' := 78) rfl (hb hby d1_45) rfl (flt (by decide : ¬ ((4 : Int32) < (4 : Int32)))).2.1 (by decide) (by decide) ?_
    show own_S p e below T119 m 78 #[oR r0, oR r1, oR r2, oR r3, oI 2, oI 4, oD 4619567317775286272, oV, oD 4619567317775286272, oV, oI 4] [] _
    refine XS.aloadN X119.here hx rfl (hb hby d1_78) rfl rfl ?_
    show own_S p e below T119 m 79 #[oR r0, oR r1, oR r2, oR r3, oI 2, oI 4, oD 4619567317775286272, oV, oD 4619567317775286272, oV, oI 4] [(.ref r0)] _
    refine XS.dload X119.here hx rfl (hb hby d1_79) rfl ?_
    show own_S p e below T119 m 81 #[oR r0, oR r1, oR r2, oR r3, oI 2, oI 4, oD 4619567317775286272, oV, oD 4619567317775286272, oV, oI 4] [(.double 4619567317775286272), (.ref r0)] _
    refine st132 _ ?_
    show own_S p e below T132 m 84 #[oR r0, oR r1, oR r2, oR r3, oI 2, oI 4, oD 4619567317775286272, oV, oD 4619567317775286272, oV, oI 4] [] _
    refine XS.aloadN X132.here hx rfl (hb hby d1_84) rfl rfl ?_
    show own_S p e below T132 m 85 #[oR r0, oR r1, oR r2, oR r3, oI 2, oI 4, oD 4619567317775286272, oV, oD 4619567317775286272, oV, oI 4] [(.ref r0)] _
    refine XS.dload X132.here hx rfl (hb hby d1_85) rfl ?_
    show own_S p e below T132 m 87 #[oR r0, oR r1, oR r2, oR r3, oI 2, oI 4, oD 4619567317775286272, oV, oD 4619567317775286272, oV, oI 4] [(.double 4619567317775286272), (.ref r0)] _
    refine st136 _ ?_
    show own_S p e below T136 m 90 #[oR r0, oR r1, oR r2, oR r3, oI 2, oI 4, oD 4619567317775286272, oV, oD 4619567317775286272, oV, oI 4] [] _
    exact X136.returnOut hx Bd.returns (hb hby d1_90) hr
  · show Q1_2_4 Z r0 r1 r2 r3 u0 u1 u2 u3 u4 u5 u6 kd ko h0 n0 _ T136.heap _
    rw [e136]
    exact ⟨rfl, N136, KK138, ((Fc131.wr W132).wr W136), ((((((Fw102.other W106 (Or.inr (sn21 hw))).other W110 (Or.inr (sn22 hw))).other W115 (Or.inr (sn23 hw))).other W119 (Or.inr (sn24 hw))).other W132 (Or.inr (sn25 hw))).other W136 (Or.inr (sn26 hw))), (((Fw115.other W119 (Or.inr (sn27 hw))).other W132 (Or.inr (sn28 hw))).other W136 (Or.inr (sn29 hw))), ((Fw119.other W132 (Or.inr (sn30 hw))).other W136 (Or.inr (sn31 hw)))⟩
theorem ef1_3_3 (m : MethodId) (r0 : Addr) (r1 : Addr) (r2 : Addr) (r3 : Addr) : entryFrame m #[(.ref r0), (.ref r1), (.ref r2), (.ref r3), (.int 3), (.int 3)] 11 = mkF m 0 #[.val (.ref r0), .val (.ref r1), .val (.ref r2), .val (.ref r3), .val (.int 3), .val (.int 3), .unset, .unset, .unset, .unset, .unset] [] := by first | (simp [entryFrame, mkF, argsToLocals, Value.category]; done) | rfl
def Q1_3_3 (Z : State) (r0 : Addr) (r1 : Addr) (r2 : Addr) (r3 : Addr) (u0 : Value) (u1 : Value) (u2 : Value) (u3 : Value) (u4 : Value) (u5 : Value) (u6 : Value) (kd : ClassId) (ko : ClassId) (h0 : Heap) (n0 : Nat) (v : Option Value) (h : Heap) (L : List Loc) : Prop := v = none ∧ Fr n0 L ∧ (Keep h0 h [r0]) ∧ (Exa Z h r0 "com/example/buurt/buurt/model/CrossTermFrequencies") ∧ (Fld Z h r0 "com/example/buurt/buurt/model/CrossTermFrequencies" "docs" "[I" (.ref r1)) ∧ (Fld Z h r0 "com/example/buurt/buurt/model/CrossTermFrequencies" "from" "I" (.int 3)) ∧ (Fld Z h r0 "com/example/buurt/buurt/model/CrossTermFrequencies" "to" "I" (.int 3))
set_option maxRecDepth 65536 in
set_option maxHeartbeats 40000000 in
theorem rm1_3_3 (l : Launch) (Z : State) (a0 : Array Value) (hw : ∀ d ∈ tables_1, d.before a0 Z = true) (ws : List Jvm.Cond) (r0 : Addr) (r1 : Addr) (r2 : Addr) (r3 : Addr) (u0 : Value) (u1 : Value) (u2 : Value) (u3 : Value) (u4 : Value) (u5 : Value) (u6 : Value) (kd : ClassId) (ko : ClassId) (h0 : Heap) (n0 : Nat) (Z0 : n0 ≤ h0.size) (F_docs_r0 : Fld Z h0 r0 "com/example/buurt/buurt/model/CrossTermFrequencies" "docs" "[I" u0) (F_tfs_r0 : Fld Z h0 r0 "com/example/buurt/buurt/model/CrossTermFrequencies" "tfs" "[D" u1) (F_occurs_r0 : Fld Z h0 r0 "com/example/buurt/buurt/model/CrossTermFrequencies" "occurs" "[I" u2) (F_from_r0 : Fld Z h0 r0 "com/example/buurt/buurt/model/CrossTermFrequencies" "from" "I" u3) (F_to_r0 : Fld Z h0 r0 "com/example/buurt/buurt/model/CrossTermFrequencies" "to" "I" u4) (F_documentFrequency_r0 : Fld Z h0 r0 "com/example/buurt/buurt/model/CrossTermFrequencies" "documentFrequency" "D" u5) (F_collectionFrequency_r0 : Fld Z h0 r0 "com/example/buurt/buurt/model/CrossTermFrequencies" "collectionFrequency" "D" u6) (E_r0 : Exa Z h0 r0 "com/example/buurt/buurt/model/CrossTermFrequencies") (g_r0 : n0 ≤ r0) (V_r2 : Arv Z h0 r2 kd .double (4 : Int32) [(.double 4607182418800017408), (.double 4611686018427387904), (.double 4613937818241073152), (.double 4616189618054758400)] (.double 0)) (V_r3 : Arv Z h0 r3 ko .int (4 : Int32) [(.int 1), (.int 1), (.int 1), (.int 1)] (.int 0)) (ne_r2_r0 : r2 ≠ r0) (ne_r3_r0 : r3 ≠ r0) :
    MetFree l (⟨"com/example/buurt/buurt/model/CrossTermFrequencies", "<init>", "([I[D[III)V"⟩ : MethodName) (head1 (Jvm.Cond.code (⟨"com/example/buurt/buurt/model/CrossTermFrequencies", "<init>", "([I[D[III)V"⟩ : MethodName) prog_27_method_1_code 11 none :: ws) ({ frames := 1, cells := 0, slots := 0, locals := 12 } : Room)) (fun a U => a = #[(.ref r0), (.ref r1), (.ref r2), (.ref r3), (.int 3), (.int 3)] ∧ Z.Warmed39 U.vm ∧ U.heap = h0) (fun _ _ _ _ _ => True) (fun _ U o U' => ∃ v L, o = .returned v ∧ Q1_3_3 Z r0 r1 r2 r3 u0 u1 u2 u3 u4 u5 u6 kd ko h0 n0 v U'.heap L ∧ FrameEnd U o U' L ({ frames := 1, cells := 0, slots := 0, locals := 12 } : Room).cells ({ frames := 1, cells := 0, slots := 0, locals := 12 } : Room).slots) := by
  refine MetFree.of_bodySF (plainFor_of_name pn0) hisR ?_
  intro p e s m args below meth c s₁ Bd hml0 hP hK
  obtain ⟨rfl, hZ, hh⟩ := hP
  have hx := Bd.exec
  have hby := Bd.bytes
  have hml : c.maxLocals = 11 := hml0
  have hown : s.vm.findClass "com/example/buurt/buurt/model/CrossTermFrequencies" = some m.cls := findClass_of_methodNamed Bd.named
  have hnm := (name_of_methodNamed Bd.named Bd.method).1
  have X0 : Stand p l e ({ frames := 1, cells := 0, slots := 0, locals := 12 } : Room) s m #[(.ref r0), (.ref r1), (.ref r2), (.ref r3), (.int 3), (.int 3)] below meth c s₁ [] 0 0 := Stand.of_body Bd
  have e0 : s₁.heap = h0 := by rw [← hh, Bd.state]; rfl
  have N0 := Fr.nil n0
  have pre0 : ∀ t, Steps p.tables e below (s₁.setTop (mkF m 0 #[.val (.ref r0), .val (.ref r1), .val (.ref r2), .val (.ref r3), .val (.int 3), .val (.int 3), .unset, .unset, .unset, .unset, .unset] [])) t → Steps p.tables e below (s₁.setTop (entryFrame m #[(.ref r0), (.ref r1), (.ref r2), (.ref r3), (.int 3), (.int 3)] 11)) t := fun t k => castTop (ef1_3_3 m r0 r1 r2 r3) k
  obtain ⟨T101, X101, e101, st101⟩ := initO X0 hx hZ hown (own_w hw 12 rfl) (own_w hw 13 rfl) (own_w hw 14 rfl) e0 (g := (mkF m 1 #[.val (.ref r0), .val (.ref r1), .val (.ref r2), .val (.ref r3), .val (.int 3), .val (.int 3), .unset, .unset, .unset, .unset, .unset] [(.ref r0)])) rfl (by rw [hml]; rfl) rfl (hb hby d1_1) (by decide) (W := 0) (by show 2 * 0 + _ ≤ _; exact Nat.le_of_eq rfl) (by decide)
  obtain ⟨T102, h102, X102, e102, W102, st102⟩ := putF X101 hx hZ hown (host := "") (Or.inl (own_w hw 15 rfl)) Via.refl e101 F_docs_r0 E_r0 (Or.inr ⟨(own_w hw 16 rfl), rfl, hnm⟩) (own_w hw 7 rfl) (ty := (.array .int)) (by decide) rfl rfl (g := (mkF m 6 #[.val (.ref r0), .val (.ref r1), .val (.ref r2), .val (.ref r3), .val (.int 3), .val (.int 3), .unset, .unset, .unset, .unset, .unset] [(.ref r1), (.ref r0)])) rfl rfl (hb hby d1_6)
  have Fw102 := F_docs_r0.same W102
  have N102 := Fr.snoc X102 N0 g_r0
  have ZZ103 : n0 ≤ h102.size := Nat.le_trans Z0 (Nat.le_of_eq W102.size.symm)
  have KK104 : Keep h0 h102 [r0] := (Keep.refl h0 [r0]).wr W102 (Or.inl (List.mem_of_getElem? (i := 0) rfl))
  have Fc105 := (F_tfs_r0.other W102 (Or.inr (sn0 hw)))
  obtain ⟨T106, h106, X106, e106, W106, st106⟩ := putF X102 hx hZ hown (host := "") (Or.inl (own_w hw 17 rfl)) Via.refl e102 Fc105 (E_r0.wr W102) (Or.inr ⟨(own_w hw 18 rfl), rfl, hnm⟩) (own_w hw 7 rfl) (ty := (.array .double)) (by decide) rfl rfl (g := (mkF m 11 #[.val (.ref r0), .val (.ref r1), .val (.ref r2), .val (.ref r3), .val (.int 3), .val (.int 3), .unset, .unset, .unset, .unset, .unset] [(.ref r2), (.ref r0)])) rfl rfl (hb hby d1_11)
  have Fw106 := Fc105.same W106
  have N106 := Fr.snoc X106 N102 g_r0
  have ZZ107 : n0 ≤ h106.size := Nat.le_trans ZZ103 (Nat.le_of_eq W106.size.symm)
  have KK108 : Keep h0 h106 [r0] := KK104.wr W106 (Or.inl (List.mem_of_getElem? (i := 0) rfl))
  have Fc109 := ((F_occurs_r0.other W102 (Or.inr (sn1 hw))).other W106 (Or.inr (sn2 hw)))
  obtain ⟨T110, h110, X110, e110, W110, st110⟩ := putF X106 hx hZ hown (host := "") (Or.inl (own_w hw 19 rfl)) Via.refl e106 Fc109 ((E_r0.wr W102).wr W106) (Or.inr ⟨(own_w hw 20 rfl), rfl, hnm⟩) (own_w hw 7 rfl) (ty := (.array .int)) (by decide) rfl rfl (g := (mkF m 16 #[.val (.ref r0), .val (.ref r1), .val (.ref r2), .val (.ref r3), .val (.int 3), .val (.int 3), .unset, .unset, .unset, .unset, .unset] [(.ref r3), (.ref r0)])) rfl rfl (hb hby d1_16)
  have Fw110 := Fc109.same W110
  have N110 := Fr.snoc X110 N106 g_r0
  have ZZ111 : n0 ≤ h110.size := Nat.le_trans ZZ107 (Nat.le_of_eq W110.size.symm)
  have KK112 : Keep h0 h110 [r0] := KK108.wr W110 (Or.inl (List.mem_of_getElem? (i := 0) rfl))
  have Fc113 := (((F_from_r0.other W102 (Or.inr (sn3 hw))).other W106 (Or.inr (sn4 hw))).other W110 (Or.inr (sn5 hw)))
  have Fc114 := (((E_r0.wr W102).wr W106).wr W110)
  obtain ⟨T115, h115, X115, e115, W115, st115⟩ := putF X110 hx hZ hown (host := "") (Or.inl (own_w hw 21 rfl)) Via.refl e110 Fc113 Fc114 (Or.inr ⟨(own_w hw 22 rfl), rfl, hnm⟩) (own_w hw 7 rfl) (ty := .int) (by decide) rfl rfl (g := (mkF m 22 #[.val (.ref r0), .val (.ref r1), .val (.ref r2), .val (.ref r3), .val (.int 3), .val (.int 3), .unset, .unset, .unset, .unset, .unset] [(.int 3), (.ref r0)])) rfl rfl (hb hby d1_22)
  have Fw115 := Fc113.same W115
  have N115 := Fr.snoc X115 N110 g_r0
  have ZZ116 : n0 ≤ h115.size := Nat.le_trans ZZ111 (Nat.le_of_eq W115.size.symm)
  have KK117 : Keep h0 h115 [r0] := KK112.wr W115 (Or.inl (List.mem_of_getElem? (i := 0) rfl))
  have Fc118 := ((((F_to_r0.other W102 (Or.inr (sn6 hw))).other W106 (Or.inr (sn7 hw))).other W110 (Or.inr (sn8 hw))).other W115 (Or.inr (sn9 hw)))
  obtain ⟨T119, h119, X119, e119, W119, st119⟩ := putF X115 hx hZ hown (host := "") (Or.inl (own_w hw 23 rfl)) Via.refl e115 Fc118 (Fc114.wr W115) (Or.inr ⟨(own_w hw 24 rfl), rfl, hnm⟩) (own_w hw 7 rfl) (ty := .int) (by decide) rfl rfl (g := (mkF m 28 #[.val (.ref r0), .val (.ref r1), .val (.ref r2), .val (.ref r3), .val (.int 3), .val (.int 3), .unset, .unset, .unset, .unset, .unset] [(.int 3), (.ref r0)])) rfl rfl (hb hby d1_28)
  have Fw119 := Fc118.same W119
  have N119 := Fr.snoc X119 N115 g_r0
  have ZZ120 : n0 ≤ h119.size := Nat.le_trans ZZ116 (Nat.le_of_eq W119.size.symm)
  have KK121 : Keep h0 h119 [r0] := KK117.wr W119 (Or.inl (List.mem_of_getElem? (i := 0) rfl))
  have Fc122 := (((((F_documentFrequency_r0.other W102 (Or.inr (sn10 hw))).other W106 (Or.inr (sn11 hw))).other W110 (Or.inr (sn12 hw))).other W115 (Or.inr (sn13 hw))).other W119 (Or.inr (sn14 hw)))
  have Fc123 := ((Fc114.wr W115).wr W119)
  obtain ⟨T124, h124, X124, e124, W124, st124⟩ := putF X119 hx hZ hown (host := "") (Or.inl (own_w hw 25 rfl)) Via.refl e119 Fc122 Fc123 (Or.inr ⟨(own_w hw 26 rfl), rfl, hnm⟩) (own_w hw 7 rfl) (ty := .double) (by decide) rfl rfl (g := (mkF m 81 #[.val (.ref r0), .val (.ref r1), .val (.ref r2), .val (.ref r3), .val (.int 3), .val (.int 3), .val (.double 0), .second, .val (.double 0), .second, .val (.int 3)] [(.double 0), (.ref r0)])) rfl rfl (hb hby d1_81)
  have Fw124 := Fc122.same W124
  have N124 := Fr.snoc X124 N119 g_r0
  have ZZ125 : n0 ≤ h124.size := Nat.le_trans ZZ120 (Nat.le_of_eq W124.size.symm)
  have KK126 : Keep h0 h124 [r0] := KK121.wr W124 (Or.inl (List.mem_of_getElem? (i := 0) rfl))
  have Fc127 := ((((((F_collectionFrequency_r0.other W102 (Or.inr (sn15 hw))).other W106 (Or.inr (sn16 hw))).other W110 (Or.inr (sn17 hw))).other W115 (Or.inr (sn18 hw))).other W119 (Or.inr (sn19 hw))).other W124 (Or.inr (sn20 hw)))
  obtain ⟨T128, h128, X128, e128, W128, st128⟩ := putF X124 hx hZ hown (host := "") (Or.inl (own_w hw 27 rfl)) Via.refl e124 Fc127 (Fc123.wr W124) (Or.inr ⟨(own_w hw 28 rfl), rfl, hnm⟩) (own_w hw 7 rfl) (ty := .double) (by decide) rfl rfl (g := (mkF m 87 #[.val (.ref r0), .val (.ref r1), .val (.ref r2), .val (.ref r3), .val (.int 3), .val (.int 3), .val (.double 0), .second, .val (.double 0), .second, .val (.int 3)] [(.double 0), (.ref r0)])) rfl rfl (hb hby d1_87)
  have Fw128 := Fc127.same W128
  have N128 := Fr.snoc X128 N124 g_r0
  have ZZ129 : n0 ≤ h128.size := Nat.le_trans ZZ125 (Nat.le_of_eq W128.size.symm)
  have KK130 : Keep h0 h128 [r0] := KK126.wr W128 (Or.inl (List.mem_of_getElem? (i := 0) rfl))
  obtain ⟨fs, hr, hrun, hended, hW, hsame⟩ := X128.leave (v := none) (fun _ => rfl)
  refine ⟨_, _, pre0 _ ?_, hrun, hended, _, _, rfl, ?_, ⟨_, rfl⟩, hW, hsame.mono (by decide) (by decide)⟩
  · show own_S p e below s₁ m 0 #[oR r0, oR r1, oR r2, oR r3, oI 3, oI 3, oU, oU, oU, oU, oU] [] _
    refine XS.aloadN X0.here hx rfl (hb hby d1_0) rfl rfl ?_
    show own_S p e below s₁ m 1 #[oR r0, oR r1, oR r2, oR r3, oI 3, oI 3, oU, oU, oU, oU, oU] [(.ref r0)] _
    refine st101 _ ?_
    show own_S p e below T101 m 4 #[oR r0, oR r1, oR r2, oR r3, oI 3, oI 3, oU, oU, oU, oU, oU] [] _
    refine XS.aloadN X101.here hx rfl (hb hby d1_4) rfl rfl ?_
    show own_S p e below T101 m 5 #[oR r0, oR r1, oR r2, oR r3, oI 3, oI 3, oU, oU, oU, oU, oU] [(.ref r0)] _
    refine XS.aloadN X101.here hx rfl (hb hby d1_5) rfl rfl ?_
    show own_S p e below T101 m 6 #[oR r0, oR r1, oR r2, oR r3, oI 3, oI 3, oU, oU, oU, oU, oU] [(.ref r1), (.ref r0)] _
    refine st102 _ ?_
    show own_S p e below T102 m 9 #[oR r0, oR r1, oR r2, oR r3, oI 3, oI 3, oU, oU, oU, oU, oU] [] _
    refine XS.aloadN X102.here hx rfl (hb hby d1_9) rfl rfl ?_
    show own_S p e below T102 m 10 #[oR r0, oR r1, oR r2, oR r3, oI 3, oI 3, oU, oU, oU, oU, oU] [(.ref r0)] _
    refine XS.aloadN X102.here hx rfl (hb hby d1_10) rfl rfl ?_
    show own_S p e below T102 m 11 #[oR r0, oR r1, oR r2, oR r3, oI 3, oI 3, oU, oU, oU, oU, oU] [(.ref r2), (.ref r0)] _
    refine st106 _ ?_
    show own_S p e below T106 m 14 #[oR r0, oR r1, oR r2, oR r3, oI 3, oI 3, oU, oU, oU, oU, oU] [] _
    refine XS.aloadN X106.here hx rfl (hb hby d1_14) rfl rfl ?_
    show own_S p e below T106 m 15 #[oR r0, oR r1, oR r2, oR r3, oI 3, oI 3, oU, oU, oU, oU, oU] [(.ref r0)] _
    refine XS.aloadN X106.here hx rfl (hb hby d1_15) rfl rfl ?_
    show own_S p e below T106 m 16 #[oR r0, oR r1, oR r2, oR r3, oI 3, oI 3, oU, oU, oU, oU, oU] [(.ref r3), (.ref r0)] _
    refine st110 _ ?_
    show own_S p e below T110 m 19 #[oR r0, oR r1, oR r2, oR r3, oI 3, oI 3, oU, oU, oU, oU, oU] [] _
    refine XS.aloadN X110.here hx rfl (hb hby d1_19) rfl rfl ?_
    show own_S p e below T110 m 20 #[oR r0, oR r1, oR r2, oR r3, oI 3, oI 3, oU, oU, oU, oU, oU] [(.ref r0)] _
    refine XS.iload X110.here hx rfl (hb hby d1_20) rfl ?_
    show own_S p e below T110 m 22 #[oR r0, oR r1, oR r2, oR r3, oI 3, oI 3, oU, oU, oU, oU, oU] [(.int 3), (.ref r0)] _
    refine st115 _ ?_
    show own_S p e below T115 m 25 #[oR r0, oR r1, oR r2, oR r3, oI 3, oI 3, oU, oU, oU, oU, oU] [] _
    refine XS.aloadN X115.here hx rfl (hb hby d1_25) rfl rfl ?_
    show own_S p e below T115 m 26 #[oR r0, oR r1, oR r2, oR r3, oI 3, oI 3, oU, oU, oU, oU, oU] [(.ref r0)] _
    refine XS.iload X115.here hx rfl (hb hby d1_26) rfl ?_
    show own_S p e below T115 m 28 #[oR r0, oR r1, oR r2, oR r3, oI 3, oI 3, oU, oU, oU, oU, oU] [(.int 3), (.ref r0)] _
    refine st119 _ ?_
    show own_S p e below T119 m 31 #[oR r0, oR r1, oR r2, oR r3, oI 3, oI 3, oU, oU, oU, oU, oU] [] _
    refine XS.dconst0 X119.here hx rfl (v := 0) (hb hby d1_31) rfl ?_
    show own_S p e below T119 m 32 #[oR r0, oR r1, oR r2, oR r3, oI 3, oI 3, oU, oU, oU, oU, oU] [(.double 0)] _
    refine XS.dstore X119.here hx rfl (hb hby d1_32) rfl (l' := #[.val (.ref r0), .val (.ref r1), .val (.ref r2), .val (.ref r3), .val (.int 3), .val (.int 3), .val (.double 0), .second, .unset, .unset, .unset]) rfl ?_
    show own_S p e below T119 m 34 #[oR r0, oR r1, oR r2, oR r3, oI 3, oI 3, oD 0, oV, oU, oU, oU] [] _
    refine XS.dconst0 X119.here hx rfl (v := 0) (hb hby d1_34) rfl ?_
    show own_S p e below T119 m 35 #[oR r0, oR r1, oR r2, oR r3, oI 3, oI 3, oD 0, oV, oU, oU, oU] [(.double 0)] _
    refine XS.dstore X119.here hx rfl (hb hby d1_35) rfl (l' := #[.val (.ref r0), .val (.ref r1), .val (.ref r2), .val (.ref r3), .val (.int 3), .val (.int 3), .val (.double 0), .second, .val (.double 0), .second, .unset]) rfl ?_
    show own_S p e below T119 m 37 #[oR r0, oR r1, oR r2, oR r3, oI 3, oI 3, oD 0, oV, oD 0, oV, oU] [] _
    refine XS.iload X119.here hx rfl (hb hby d1_37) rfl ?_
    show own_S p e below T119 m 39 #[oR r0, oR r1, oR r2, oR r3, oI 3, oI 3, oD 0, oV, oD 0, oV, oU] [(.int 3)] _
    refine XS.istore X119.here hx rfl (hb hby d1_39) rfl (l' := #[.val (.ref r0), .val (.ref r1), .val (.ref r2), .val (.ref r3), .val (.int 3), .val (.int 3), .val (.double 0), .second, .val (.double 0), .second, .val (.int 3)]) rfl ?_
    show own_S p e below T119 m 41 #[oR r0, oR r1, oR r2, oR r3, oI 3, oI 3, oD 0, oV, oD 0, oV, oI 3] [] _
    refine XS.iload X119.here hx rfl (hb hby d1_41) rfl ?_
    show own_S p e below T119 m 43 #[oR r0, oR r1, oR r2, oR r3, oI 3, oI 3, oD 0, oV, oD 0, oV, oI 3] [(.int 3)] _
    refine XS.iload X119.here hx rfl (hb hby d1_43) rfl ?_
    show own_S p e below T119 m 45 #[oR r0, oR r1, oR r2, oR r3, oI 3, oI 3, oD 0, oV, oD 0, oV, oI 3] [(.int 3), (.int 3)] _
    refine XS.icmpYes X119.here hx rfl (pc0 := 45) (pc' := 78) rfl (hb hby d1_45) rfl (flt (by decide : ¬ ((3 : Int32) < (3 : Int32)))).2.1 (by decide) (by decide) ?_
    show own_S p e below T119 m 78 #[oR r0, oR r1, oR r2, oR r3, oI 3, oI 3, oD 0, oV, oD 0, oV, oI 3] [] _
    refine XS.aloadN X119.here hx rfl (hb hby d1_78) rfl rfl ?_
    show own_S p e below T119 m 79 #[oR r0, oR r1, oR r2, oR r3, oI 3, oI 3, oD 0, oV, oD 0, oV, oI 3] [(.ref r0)] _
    refine XS.dload X119.here hx rfl (hb hby d1_79) rfl ?_
    show own_S p e below T119 m 81 #[oR r0, oR r1, oR r2, oR r3, oI 3, oI 3, oD 0, oV, oD 0, oV, oI 3] [(.double 0), (.ref r0)] _
    refine st124 _ ?_
    show own_S p e below T124 m 84 #[oR r0, oR r1, oR r2, oR r3, oI 3, oI 3, oD 0, oV, oD 0, oV, oI 3] [] _
    refine XS.aloadN X124.here hx rfl (hb hby d1_84) rfl rfl ?_
    show own_S p e below T124 m 85 #[oR r0, oR r1, oR r2, oR r3, oI 3, oI 3, oD 0, oV, oD 0, oV, oI 3] [(.ref r0)] _
    refine XS.dload X124.here hx rfl (hb hby d1_85) rfl ?_
    show own_S p e below T124 m 87 #[oR r0, oR r1, oR r2, oR r3, oI 3, oI 3, oD 0, oV, oD 0, oV, oI 3] [(.double 0), (.ref r0)] _
    refine st128 _ ?_
    show own_S p e below T128 m 90 #[oR r0, oR r1, oR r2, oR r3, oI 3, oI 3, oD 0, oV, oD 0, oV, oI 3] [] _
    exact X128.returnOut hx Bd.returns (hb hby d1_90) hr
  · show Q1_3_3 Z r0 r1 r2 r3 u0 u1 u2 u3 u4 u5 u6 kd ko h0 n0 _ T128.heap _
    rw [e128]
    exact ⟨rfl, N128, KK130, ((Fc123.wr W124).wr W128), ((((((Fw102.other W106 (Or.inr (sn21 hw))).other W110 (Or.inr (sn22 hw))).other W115 (Or.inr (sn23 hw))).other W119 (Or.inr (sn24 hw))).other W124 (Or.inr (sn25 hw))).other W128 (Or.inr (sn26 hw))), (((Fw115.other W119 (Or.inr (sn27 hw))).other W124 (Or.inr (sn28 hw))).other W128 (Or.inr (sn29 hw))), ((Fw119.other W124 (Or.inr (sn30 hw))).other W128 (Or.inr (sn31 hw)))⟩
theorem ef1_3_4 (m : MethodId) (r0 : Addr) (r1 : Addr) (r2 : Addr) (r3 : Addr) : entryFrame m #[(.ref r0), (.ref r1), (.ref r2), (.ref r3), (.int 3), (.int 4)] 11 = mkF m 0 #[.val (.ref r0), .val (.ref r1), .val (.ref r2), .val (.ref r3), .val (.int 3), .val (.int 4), .unset, .unset, .unset, .unset, .unset] [] := by first | (simp [entryFrame, mkF, argsToLocals, Value.category]; done) | rfl
def Q1_3_4 (Z : State) (r0 : Addr) (r1 : Addr) (r2 : Addr) (r3 : Addr) (u0 : Value) (u1 : Value) (u2 : Value) (u3 : Value) (u4 : Value) (u5 : Value) (u6 : Value) (kd : ClassId) (ko : ClassId) (h0 : Heap) (n0 : Nat) (v : Option Value) (h : Heap) (L : List Loc) : Prop := v = none ∧ Fr n0 L ∧ (Keep h0 h [r0]) ∧ (Exa Z h r0 "com/example/buurt/buurt/model/CrossTermFrequencies") ∧ (Fld Z h r0 "com/example/buurt/buurt/model/CrossTermFrequencies" "docs" "[I" (.ref r1)) ∧ (Fld Z h r0 "com/example/buurt/buurt/model/CrossTermFrequencies" "from" "I" (.int 3)) ∧ (Fld Z h r0 "com/example/buurt/buurt/model/CrossTermFrequencies" "to" "I" (.int 4))
set_option maxRecDepth 65536 in
set_option maxHeartbeats 40000000 in
theorem rm1_3_4 (l : Launch) (Z : State) (a0 : Array Value) (hw : ∀ d ∈ tables_1, d.before a0 Z = true) (ws : List Jvm.Cond) (r0 : Addr) (r1 : Addr) (r2 : Addr) (r3 : Addr) (u0 : Value) (u1 : Value) (u2 : Value) (u3 : Value) (u4 : Value) (u5 : Value) (u6 : Value) (kd : ClassId) (ko : ClassId) (h0 : Heap) (n0 : Nat) (Z0 : n0 ≤ h0.size) (F_docs_r0 : Fld Z h0 r0 "com/example/buurt/buurt/model/CrossTermFrequencies" "docs" "[I" u0) (F_tfs_r0 : Fld Z h0 r0 "com/example/buurt/buurt/model/CrossTermFrequencies" "tfs" "[D" u1) (F_occurs_r0 : Fld Z h0 r0 "com/example/buurt/buurt/model/CrossTermFrequencies" "occurs" "[I" u2) (F_from_r0 : Fld Z h0 r0 "com/example/buurt/buurt/model/CrossTermFrequencies" "from" "I" u3) (F_to_r0 : Fld Z h0 r0 "com/example/buurt/buurt/model/CrossTermFrequencies" "to" "I" u4) (F_documentFrequency_r0 : Fld Z h0 r0 "com/example/buurt/buurt/model/CrossTermFrequencies" "documentFrequency" "D" u5) (F_collectionFrequency_r0 : Fld Z h0 r0 "com/example/buurt/buurt/model/CrossTermFrequencies" "collectionFrequency" "D" u6) (E_r0 : Exa Z h0 r0 "com/example/buurt/buurt/model/CrossTermFrequencies") (g_r0 : n0 ≤ r0) (V_r2 : Arv Z h0 r2 kd .double (4 : Int32) [(.double 4607182418800017408), (.double 4611686018427387904), (.double 4613937818241073152), (.double 4616189618054758400)] (.double 0)) (V_r3 : Arv Z h0 r3 ko .int (4 : Int32) [(.int 1), (.int 1), (.int 1), (.int 1)] (.int 0)) (ne_r2_r0 : r2 ≠ r0) (ne_r3_r0 : r3 ≠ r0) :
    MetFree l (⟨"com/example/buurt/buurt/model/CrossTermFrequencies", "<init>", "([I[D[III)V"⟩ : MethodName) (head1 (Jvm.Cond.code (⟨"com/example/buurt/buurt/model/CrossTermFrequencies", "<init>", "([I[D[III)V"⟩ : MethodName) prog_27_method_1_code 11 none :: ws) ({ frames := 1, cells := 0, slots := 0, locals := 12 } : Room)) (fun a U => a = #[(.ref r0), (.ref r1), (.ref r2), (.ref r3), (.int 3), (.int 4)] ∧ Z.Warmed39 U.vm ∧ U.heap = h0) (fun _ _ _ _ _ => True) (fun _ U o U' => ∃ v L, o = .returned v ∧ Q1_3_4 Z r0 r1 r2 r3 u0 u1 u2 u3 u4 u5 u6 kd ko h0 n0 v U'.heap L ∧ FrameEnd U o U' L ({ frames := 1, cells := 0, slots := 0, locals := 12 } : Room).cells ({ frames := 1, cells := 0, slots := 0, locals := 12 } : Room).slots) := by
  refine MetFree.of_bodySF (plainFor_of_name pn0) hisR ?_
  intro p e s m args below meth c s₁ Bd hml0 hP hK
  obtain ⟨rfl, hZ, hh⟩ := hP
  have hx := Bd.exec
  have hby := Bd.bytes
  have hml : c.maxLocals = 11 := hml0
  have hown : s.vm.findClass "com/example/buurt/buurt/model/CrossTermFrequencies" = some m.cls := findClass_of_methodNamed Bd.named
  have hnm := (name_of_methodNamed Bd.named Bd.method).1
  have X0 : Stand p l e ({ frames := 1, cells := 0, slots := 0, locals := 12 } : Room) s m #[(.ref r0), (.ref r1), (.ref r2), (.ref r3), (.int 3), (.int 4)] below meth c s₁ [] 0 0 := Stand.of_body Bd
  have e0 : s₁.heap = h0 := by rw [← hh, Bd.state]; rfl
  have N0 := Fr.nil n0
  have pre0 : ∀ t, Steps p.tables e below (s₁.setTop (mkF m 0 #[.val (.ref r0), .val (.ref r1), .val (.ref r2), .val (.ref r3), .val (.int 3), .val (.int 4), .unset, .unset, .unset, .unset, .unset] [])) t → Steps p.tables e below (s₁.setTop (entryFrame m #[(.ref r0), (.ref r1), (.ref r2), (.ref r3), (.int 3), (.int 4)] 11)) t := fun t k => castTop (ef1_3_4 m r0 r1 r2 r3) k
  obtain ⟨T101, X101, e101, st101⟩ := initO X0 hx hZ hown (own_w hw 12 rfl) (own_w hw 13 rfl) (own_w hw 14 rfl) e0 (g := (mkF m 1 #[.val (.ref r0), .val (.ref r1), .val (.ref r2), .val (.ref r3), .val (.int 3), .val (.int 4), .unset, .unset, .unset, .unset, .unset] [(.ref r0)])) rfl (by rw [hml]; rfl) rfl (hb hby d1_1) (by decide) (W := 0) (by show 2 * 0 + _ ≤ _; exact Nat.le_of_eq rfl) (by decide)
  obtain ⟨T102, h102, X102, e102, W102, st102⟩ := putF X101 hx hZ hown (host := "") (Or.inl (own_w hw 15 rfl)) Via.refl e101 F_docs_r0 E_r0 (Or.inr ⟨(own_w hw 16 rfl), rfl, hnm⟩) (own_w hw 7 rfl) (ty := (.array .int)) (by decide) rfl rfl (g := (mkF m 6 #[.val (.ref r0), .val (.ref r1), .val (.ref r2), .val (.ref r3), .val (.int 3), .val (.int 4), .unset, .unset, .unset, .unset, .unset] [(.ref r1), (.ref r0)])) rfl rfl (hb hby d1_6)
  have Fw102 := F_docs_r0.same W102
  have N102 := Fr.snoc X102 N0 g_r0
  have ZZ103 : n0 ≤ h102.size := Nat.le_trans Z0 (Nat.le_of_eq W102.size.symm)
  have KK104 : Keep h0 h102 [r0] := (Keep.refl h0 [r0]).wr W102 (Or.inl (List.mem_of_getElem? (i := 0) rfl))
  have Fc105 := (F_tfs_r0.other W102 (Or.inr (sn0 hw)))
  obtain ⟨T106, h106, X106, e106, W106, st106⟩ := putF X102 hx hZ hown (host := "") (Or.inl (own_w hw 17 rfl)) Via.refl e102 Fc105 (E_r0.wr W102) (Or.inr ⟨(own_w hw 18 rfl), rfl, hnm⟩) (own_w hw 7 rfl) (ty := (.array .double)) (by decide) rfl rfl (g := (mkF m 11 #[.val (.ref r0), .val (.ref r1), .val (.ref r2), .val (.ref r3), .val (.int 3), .val (.int 4), .unset, .unset, .unset, .unset, .unset] [(.ref r2), (.ref r0)])) rfl rfl (hb hby d1_11)
  have Fw106 := Fc105.same W106
  have N106 := Fr.snoc X106 N102 g_r0
  have ZZ107 : n0 ≤ h106.size := Nat.le_trans ZZ103 (Nat.le_of_eq W106.size.symm)
  have KK108 : Keep h0 h106 [r0] := KK104.wr W106 (Or.inl (List.mem_of_getElem? (i := 0) rfl))
  have Fc109 := ((F_occurs_r0.other W102 (Or.inr (sn1 hw))).other W106 (Or.inr (sn2 hw)))
  obtain ⟨T110, h110, X110, e110, W110, st110⟩ := putF X106 hx hZ hown (host := "") (Or.inl (own_w hw 19 rfl)) Via.refl e106 Fc109 ((E_r0.wr W102).wr W106) (Or.inr ⟨(own_w hw 20 rfl), rfl, hnm⟩) (own_w hw 7 rfl) (ty := (.array .int)) (by decide) rfl rfl (g := (mkF m 16 #[.val (.ref r0), .val (.ref r1), .val (.ref r2), .val (.ref r3), .val (.int 3), .val (.int 4), .unset, .unset, .unset, .unset, .unset] [(.ref r3), (.ref r0)])) rfl rfl (hb hby d1_16)
  have Fw110 := Fc109.same W110
  have N110 := Fr.snoc X110 N106 g_r0
  have ZZ111 : n0 ≤ h110.size := Nat.le_trans ZZ107 (Nat.le_of_eq W110.size.symm)
  have KK112 : Keep h0 h110 [r0] := KK108.wr W110 (Or.inl (List.mem_of_getElem? (i := 0) rfl))
  have Fc113 := (((F_from_r0.other W102 (Or.inr (sn3 hw))).other W106 (Or.inr (sn4 hw))).other W110 (Or.inr (sn5 hw)))
  have Fc114 := (((E_r0.wr W102).wr W106).wr W110)
  obtain ⟨T115, h115, X115, e115, W115, st115⟩ := putF X110 hx hZ hown (host := "") (Or.inl (own_w hw 21 rfl)) Via.refl e110 Fc113 Fc114 (Or.inr ⟨(own_w hw 22 rfl), rfl, hnm⟩) (own_w hw 7 rfl) (ty := .int) (by decide) rfl rfl (g := (mkF m 22 #[.val (.ref r0), .val (.ref r1), .val (.ref r2), .val (.ref r3), .val (.int 3), .val (.int 4), .unset, .unset, .unset, .unset, .unset] [(.int 3), (.ref r0)])) rfl rfl (hb hby d1_22)
  have Fw115 := Fc113.same W115
  have N115 := Fr.snoc X115 N110 g_r0
  have ZZ116 : n0 ≤ h115.size := Nat.le_trans ZZ111 (Nat.le_of_eq W115.size.symm)
  have KK117 : Keep h0 h115 [r0] := KK112.wr W115 (Or.inl (List.mem_of_getElem? (i := 0) rfl))
  have Fc118 := ((((F_to_r0.other W102 (Or.inr (sn6 hw))).other W106 (Or.inr (sn7 hw))).other W110 (Or.inr (sn8 hw))).other W115 (Or.inr (sn9 hw)))
  obtain ⟨T119, h119, X119, e119, W119, st119⟩ := putF X115 hx hZ hown (host := "") (Or.inl (own_w hw 23 rfl)) Via.refl e115 Fc118 (Fc114.wr W115) (Or.inr ⟨(own_w hw 24 rfl), rfl, hnm⟩) (own_w hw 7 rfl) (ty := .int) (by decide) rfl rfl (g := (mkF m 28 #[.val (.ref r0), .val (.ref r1), .val (.ref r2), .val (.ref r3), .val (.int 3), .val (.int 4), .unset, .unset, .unset, .unset, .unset] [(.int 4), (.ref r0)])) rfl rfl (hb hby d1_28)
  have Fw119 := Fc118.same W119
  have N119 := Fr.snoc X119 N115 g_r0
  have ZZ120 : n0 ≤ h119.size := Nat.le_trans ZZ116 (Nat.le_of_eq W119.size.symm)
  have KK121 : Keep h0 h119 [r0] := KK117.wr W119 (Or.inl (List.mem_of_getElem? (i := 0) rfl))
  have Fc122 := (((((V_r2.other W102 ne_r2_r0).other W106 ne_r2_r0).other W110 ne_r2_r0).other W115 ne_r2_r0).other W119 ne_r2_r0)
  obtain ⟨cl123, Ar123, qk123, Sz123, Nz123, Hh123, Gg123⟩ := id Fc122
  have hin123 : ¬ ((3 : Int32) < 0 ∨ cl123.slots.size ≤ ((3 : Int32)).toNatClampNeg) := inb_of Sz123 ⟨by decide, by decide⟩
  have hat123 : cl123.slots[((3 : Int32)).toNatClampNeg]? = some (.double 4616189618054758400) := Has.at Hh123 hin123 rfl
  have Fc124 := (((((V_r3.other W102 ne_r3_r0).other W106 ne_r3_r0).other W110 ne_r3_r0).other W115 ne_r3_r0).other W119 ne_r3_r0)
  obtain ⟨cl125, Ar125, qk125, Sz125, Nz125, Hh125, Gg125⟩ := id Fc124
  have hin125 : ¬ ((3 : Int32) < 0 ∨ cl125.slots.size ≤ ((3 : Int32)).toNatClampNeg) := inb_of Sz125 ⟨by decide, by decide⟩
  have hat125 : cl125.slots[((3 : Int32)).toNatClampNeg]? = some (.int 1) := Has.at Hh125 hin125 rfl
  obtain ⟨cl126, Ar126, qk126, Sz126, Nz126, Hh126, Gg126⟩ := id Fc122
  have hin126 : ¬ ((3 : Int32) < 0 ∨ cl126.slots.size ≤ ((3 : Int32)).toNatClampNeg) := inb_of Sz126 ⟨by decide, by decide⟩
  have hat126 : cl126.slots[((3 : Int32)).toNatClampNeg]? = some (.double 4616189618054758400) := Has.at Hh126 hin126 rfl
  have Fc127 := (((((F_documentFrequency_r0.other W102 (Or.inr (sn10 hw))).other W106 (Or.inr (sn11 hw))).other W110 (Or.inr (sn12 hw))).other W115 (Or.inr (sn13 hw))).other W119 (Or.inr (sn14 hw)))
  have Fc128 := ((Fc114.wr W115).wr W119)
  obtain ⟨T129, h129, X129, e129, W129, st129⟩ := putF X119 hx hZ hown (host := "") (Or.inl (own_w hw 25 rfl)) Via.refl e119 Fc127 Fc128 (Or.inr ⟨(own_w hw 26 rfl), rfl, hnm⟩) (own_w hw 7 rfl) (ty := .double) (by decide) rfl rfl (g := (mkF m 81 #[.val (.ref r0), .val (.ref r1), .val (.ref r2), .val (.ref r3), .val (.int 3), .val (.int 4), .val (.double 4616189618054758400), .second, .val (.double 4616189618054758400), .second, .val (.int 4)] [(.double 4616189618054758400), (.ref r0)])) rfl rfl (hb hby d1_81)
  have Fw129 := Fc127.same W129
  have N129 := Fr.snoc X129 N119 g_r0
  have ZZ130 : n0 ≤ h129.size := Nat.le_trans ZZ120 (Nat.le_of_eq W129.size.symm)
  have KK131 : Keep h0 h129 [r0] := KK121.wr W129 (Or.inl (List.mem_of_getElem? (i := 0) rfl))
  have Fc132 := ((((((F_collectionFrequency_r0.other W102 (Or.inr (sn15 hw))).other W106 (Or.inr (sn16 hw))).other W110 (Or.inr (sn17 hw))).other W115 (Or.inr (sn18 hw))).other W119 (Or.inr (sn19 hw))).other W129 (Or.inr (sn20 hw)))
  obtain ⟨T133, h133, X133, e133, W133, st133⟩ := putF X129 hx hZ hown (host := "") (Or.inl (own_w hw 27 rfl)) Via.refl e129 Fc132 (Fc128.wr W129) (Or.inr ⟨(own_w hw 28 rfl), rfl, hnm⟩) (own_w hw 7 rfl) (ty := .double) (by decide) rfl rfl (g := (mkF m 87 #[.val (.ref r0), .val (.ref r1), .val (.ref r2), .val (.ref r3), .val (.int 3), .val (.int 4), .val (.double 4616189618054758400), .second, .val (.double 4616189618054758400), .second, .val (.int 4)] [(.double 4616189618054758400), (.ref r0)])) rfl rfl (hb hby d1_87)
  have Fw133 := Fc132.same W133
  have N133 := Fr.snoc X133 N129 g_r0
  have ZZ134 : n0 ≤ h133.size := Nat.le_trans ZZ130 (Nat.le_of_eq W133.size.symm)
  have KK135 : Keep h0 h133 [r0] := KK131.wr W133 (Or.inl (List.mem_of_getElem? (i := 0) rfl))
  obtain ⟨fs, hr, hrun, hended, hW, hsame⟩ := X133.leave (v := none) (fun _ => rfl)
  refine ⟨_, _, pre0 _ ?_, hrun, hended, _, _, rfl, ?_, ⟨_, rfl⟩, hW, hsame.mono (by decide) (by decide)⟩
  · show own_S p e below s₁ m 0 #[oR r0, oR r1, oR r2, oR r3, oI 3, oI 4, oU, oU, oU, oU, oU] [] _
    refine XS.aloadN X0.here hx rfl (hb hby d1_0) rfl rfl ?_
    show own_S p e below s₁ m 1 #[oR r0, oR r1, oR r2, oR r3, oI 3, oI 4, oU, oU, oU, oU, oU] [(.ref r0)] _
    refine st101 _ ?_
    show own_S p e below T101 m 4 #[oR r0, oR r1, oR r2, oR r3, oI 3, oI 4, oU, oU, oU, oU, oU] [] _
    refine XS.aloadN X101.here hx rfl (hb hby d1_4) rfl rfl ?_
    show own_S p e below T101 m 5 #[oR r0, oR r1, oR r2, oR r3, oI 3, oI 4, oU, oU, oU, oU, oU] [(.ref r0)] _
    refine XS.aloadN X101.here hx rfl (hb hby d1_5) rfl rfl ?_
    show own_S p e below T101 m 6 #[oR r0, oR r1, oR r2, oR r3, oI 3, oI 4, oU, oU, oU, oU, oU] [(.ref r1), (.ref r0)] _
    refine st102 _ ?_
    show own_S p e below T102 m 9 #[oR r0, oR r1, oR r2, oR r3, oI 3, oI 4, oU, oU, oU, oU, oU] [] _
    refine XS.aloadN X102.here hx rfl (hb hby d1_9) rfl rfl ?_
    show own_S p e below T102 m 10 #[oR r0, oR r1, oR r2, oR r3, oI 3, oI 4, oU, oU, oU, oU, oU] [(.ref r0)] _
    refine XS.aloadN X102.here hx rfl (hb hby d1_10) rfl rfl ?_
    show own_S p e below T102 m 11 #[oR r0, oR r1, oR r2, oR r3, oI 3, oI 4, oU, oU, oU, oU, oU] [(.ref r2), (.ref r0)] _
    refine st106 _ ?_
    show own_S p e below T106 m 14 #[oR r0, oR r1, oR r2, oR r3, oI 3, oI 4, oU, oU, oU, oU, oU] [] _
    refine XS.aloadN X106.here hx rfl (hb hby d1_14) rfl rfl ?_
    show own_S p e below T106 m 15 #[oR r0, oR r1, oR r2, oR r3, oI 3, oI 4, oU, oU, oU, oU, oU] [(.ref r0)] _
    refine XS.aloadN X106.here hx rfl (hb hby d1_15) rfl rfl ?_
    show own_S p e below T106 m 16 #[oR r0, oR r1, oR r2, oR r3, oI 3, oI 4, oU, oU, oU, oU, oU] [(.ref r3), (.ref r0)] _
    refine st110 _ ?_
    show own_S p e below T110 m 19 #[oR r0, oR r1, oR r2, oR r3, oI 3, oI 4, oU, oU, oU, oU, oU] [] _
    refine XS.aloadN X110.here hx rfl (hb hby d1_19) rfl rfl ?_
    show own_S p e below T110 m 20 #[oR r0, oR r1, oR r2, oR r3, oI 3, oI 4, oU, oU, oU, oU, oU] [(.ref r0)] _
    refine XS.iload X110.here hx rfl (hb hby d1_20) rfl ?_
    show own_S p e below T110 m 22 #[oR r0, oR r1, oR r2, oR r3, oI 3, oI 4, oU, oU, oU, oU, oU] [(.int 3), (.ref r0)] _
    refine st115 _ ?_
    show own_S p e below T115 m 25 #[oR r0, oR r1, oR r2, oR r3, oI 3, oI 4, oU, oU, oU, oU, oU] [] _
    refine XS.aloadN X115.here hx rfl (hb hby d1_25) rfl rfl ?_
    show own_S p e below T115 m 26 #[oR r0, oR r1, oR r2, oR r3, oI 3, oI 4, oU, oU, oU, oU, oU] [(.ref r0)] _
    refine XS.iload X115.here hx rfl (hb hby d1_26) rfl ?_
    show own_S p e below T115 m 28 #[oR r0, oR r1, oR r2, oR r3, oI 3, oI 4, oU, oU, oU, oU, oU] [(.int 4), (.ref r0)] _
    refine st119 _ ?_
    show own_S p e below T119 m 31 #[oR r0, oR r1, oR r2, oR r3, oI 3, oI 4, oU, oU, oU, oU, oU] [] _
    refine XS.dconst0 X119.here hx rfl (v := 0) (hb hby d1_31) rfl ?_
    show own_S p e below T119 m 32 #[oR r0, oR r1, oR r2, oR r3, oI 3, oI 4, oU, oU, oU, oU, oU] [(.double 0)] _
    refine XS.dstore X119.here hx rfl (hb hby d1_32) rfl (l' := #[.val (.ref r0), .val (.ref r1), .val (.ref r2), .val (.ref r3), .val (.int 3), .val (.int 4), .val (.double 0), .second, .unset, .unset, .unset]) rfl ?_
    show own_S p e below T119 m 34 #[oR r0, oR r1, oR r2, oR r3, oI 3, oI 4, oD 0, oV, oU, oU, oU] [] _
    refine XS.dconst0 X119.here hx rfl (v := 0) (hb hby d1_34) rfl ?_
    show own_S p e below T119 m 35 #[oR r0, oR r1, oR r2, oR r3, oI 3, oI 4, oD 0, oV, oU, oU, oU] [(.double 0)] _
    refine XS.dstore X119.here hx rfl (hb hby d1_35) rfl (l' := #[.val (.ref r0), .val (.ref r1), .val (.ref r2), .val (.ref r3), .val (.int 3), .val (.int 4), .val (.double 0), .second, .val (.double 0), .second, .unset]) rfl ?_
    show own_S p e below T119 m 37 #[oR r0, oR r1, oR r2, oR r3, oI 3, oI 4, oD 0, oV, oD 0, oV, oU] [] _
    refine XS.iload X119.here hx rfl (hb hby d1_37) rfl ?_
    show own_S p e below T119 m 39 #[oR r0, oR r1, oR r2, oR r3, oI 3, oI 4, oD 0, oV, oD 0, oV, oU] [(.int 3)] _
    refine XS.istore X119.here hx rfl (hb hby d1_39) rfl (l' := #[.val (.ref r0), .val (.ref r1), .val (.ref r2), .val (.ref r3), .val (.int 3), .val (.int 4), .val (.double 0), .second, .val (.double 0), .second, .val (.int 3)]) rfl ?_
    show own_S p e below T119 m 41 #[oR r0, oR r1, oR r2, oR r3, oI 3, oI 4, oD 0, oV, oD 0, oV, oI 3] [] _
    refine XS.iload X119.here hx rfl (hb hby d1_41) rfl ?_
    show own_S p e below T119 m 43 #[oR r0, oR r1, oR r2, oR r3, oI 3, oI 4, oD 0, oV, oD 0, oV, oI 3] [(.int 3)] _
    refine XS.iload X119.here hx rfl (hb hby d1_43) rfl ?_
    show own_S p e below T119 m 45 #[oR r0, oR r1, oR r2, oR r3, oI 3, oI 4, oD 0, oV, oD 0, oV, oI 3] [(.int 4), (.int 3)] _
    refine XS.icmpNo X119.here hx rfl (hb hby d1_45) rfl (tlt (by decide : (3 : Int32) < (4 : Int32))).2.1 ?_
    show own_S p e below T119 m 48 #[oR r0, oR r1, oR r2, oR r3, oI 3, oI 4, oD 0, oV, oD 0, oV, oI 3] [] _
    refine XS.dload X119.here hx rfl (hb hby d1_48) rfl ?_
    show own_S p e below T119 m 50 #[oR r0, oR r1, oR r2, oR r3, oI 3, oI 4, oD 0, oV, oD 0, oV, oI 3] [(.double 0)] _
    refine XS.aloadN X119.here hx rfl (hb hby d1_50) rfl rfl ?_
    show own_S p e below T119 m 51 #[oR r0, oR r1, oR r2, oR r3, oI 3, oI 4, oD 0, oV, oD 0, oV, oI 3] [(.ref r2), (.double 0)] _
    refine XS.iload X119.here hx rfl (hb hby d1_51) rfl ?_
    show own_S p e below T119 m 53 #[oR r0, oR r1, oR r2, oR r3, oI 3, oI 4, oD 0, oV, oD 0, oV, oI 3] [(.int 3), (.ref r2), (.double 0)] _
    refine X119.daload hx (j := (3 : Int32)) (v := (.double 4616189618054758400)) (by rw [e119]; exact Ar123.1) (State.isArrayOf_alike hZ.alike Ar123.2.1) Ar123.2.2 hin123 hat123 (g := (mkF m 53 #[.val (.ref r0), .val (.ref r1), .val (.ref r2), .val (.ref r3), .val (.int 3), .val (.int 4), .val (.double 0), .second, .val (.double 0), .second, .val (.int 3)] [(.int 3), (.ref r2), (.double 0)])) rfl rfl (hb hby d1_53) _ ?_
    show own_S p e below T119 m 54 #[oR r0, oR r1, oR r2, oR r3, oI 3, oI 4, oD 0, oV, oD 0, oV, oI 3] [(.double 4616189618054758400), (.double 0)] _
    refine XS.aloadN X119.here hx rfl (hb hby d1_54) rfl rfl ?_
    show own_S p e below T119 m 55 #[oR r0, oR r1, oR r2, oR r3, oI 3, oI 4, oD 0, oV, oD 0, oV, oI 3] [(.ref r3), (.double 4616189618054758400), (.double 0)] _
    refine XS.iload X119.here hx rfl (hb hby d1_55) rfl ?_
    show own_S p e below T119 m 57 #[oR r0, oR r1, oR r2, oR r3, oI 3, oI 4, oD 0, oV, oD 0, oV, oI 3] [(.int 3), (.ref r3), (.double 4616189618054758400), (.double 0)] _
    refine X119.iaload hx (j := (3 : Int32)) (v := (.int 1)) (by rw [e119]; exact Ar125.1) (State.isArrayOf_alike hZ.alike Ar125.2.1) Ar125.2.2 hin125 hat125 (g := (mkF m 57 #[.val (.ref r0), .val (.ref r1), .val (.ref r2), .val (.ref r3), .val (.int 3), .val (.int 4), .val (.double 0), .second, .val (.double 0), .second, .val (.int 3)] [(.int 3), (.ref r3), (.double 4616189618054758400), (.double 0)])) rfl rfl (hb hby d1_57) _ ?_
    show own_S p e below T119 m 58 #[oR r0, oR r1, oR r2, oR r3, oI 3, oI 4, oD 0, oV, oD 0, oV, oI 3] [(.int 1), (.double 4616189618054758400), (.double 0)] _
    refine XS.i2dS X119.here hx rfl (v := (4607182418800017408 : UInt64)) (hb hby d1_58) rfl (by decide +kernel) ?_
    show own_S p e below T119 m 59 #[oR r0, oR r1, oR r2, oR r3, oI 3, oI 4, oD 0, oV, oD 0, oV, oI 3] [(.double 4607182418800017408), (.double 4616189618054758400), (.double 0)] _
    refine XS.ddivS X119.here hx rfl (v := (4616189618054758400 : UInt64)) (hb hby d1_59) rfl (own_nnl (by decide +kernel : FP.ddiv (4616189618054758400 : UInt64) (4607182418800017408 : UInt64) = (4616189618054758400 : UInt64)) (by unfold NoNaN64; decide)) (by decide +kernel) ?_
    show own_S p e below T119 m 60 #[oR r0, oR r1, oR r2, oR r3, oI 3, oI 4, oD 0, oV, oD 0, oV, oI 3] [(.double 4616189618054758400), (.double 0)] _
    refine XS.daddS X119.here hx rfl (v := (4616189618054758400 : UInt64)) (hb hby d1_60) rfl (own_nnl (by decide +kernel : FP.dadd (0 : UInt64) (4616189618054758400 : UInt64) = (4616189618054758400 : UInt64)) (by unfold NoNaN64; decide)) (by decide +kernel) ?_
    show own_S p e below T119 m 61 #[oR r0, oR r1, oR r2, oR r3, oI 3, oI 4, oD 0, oV, oD 0, oV, oI 3] [(.double 4616189618054758400)] _
    refine XS.dstore X119.here hx rfl (hb hby d1_61) rfl (l' := #[.val (.ref r0), .val (.ref r1), .val (.ref r2), .val (.ref r3), .val (.int 3), .val (.int 4), .val (.double 4616189618054758400), .second, .val (.double 0), .second, .val (.int 3)]) rfl ?_
    show own_S p e below T119 m 63 #[oR r0, oR r1, oR r2, oR r3, oI 3, oI 4, oD 4616189618054758400, oV, oD 0, oV, oI 3] [] _
    refine XS.dload X119.here hx rfl (hb hby d1_63) rfl ?_
    show own_S p e below T119 m 65 #[oR r0, oR r1, oR r2, oR r3, oI 3, oI 4, oD 4616189618054758400, oV, oD 0, oV, oI 3] [(.double 0)] _
    refine XS.aloadN X119.here hx rfl (hb hby d1_65) rfl rfl ?_
    show own_S p e below T119 m 66 #[oR r0, oR r1, oR r2, oR r3, oI 3, oI 4, oD 4616189618054758400, oV, oD 0, oV, oI 3] [(.ref r2), (.double 0)] _
    refine XS.iload X119.here hx rfl (hb hby d1_66) rfl ?_
    show own_S p e below T119 m 68 #[oR r0, oR r1, oR r2, oR r3, oI 3, oI 4, oD 4616189618054758400, oV, oD 0, oV, oI 3] [(.int 3), (.ref r2), (.double 0)] _
    refine X119.daload hx (j := (3 : Int32)) (v := (.double 4616189618054758400)) (by rw [e119]; exact Ar126.1) (State.isArrayOf_alike hZ.alike Ar126.2.1) Ar126.2.2 hin126 hat126 (g := (mkF m 68 #[.val (.ref r0), .val (.ref r1), .val (.ref r2), .val (.ref r3), .val (.int 3), .val (.int 4), .val (.double 4616189618054758400), .second, .val (.double 0), .second, .val (.int 3)] [(.int 3), (.ref r2), (.double 0)])) rfl rfl (hb hby d1_68) _ ?_
    show own_S p e below T119 m 69 #[oR r0, oR r1, oR r2, oR r3, oI 3, oI 4, oD 4616189618054758400, oV, oD 0, oV, oI 3] [(.double 4616189618054758400), (.double 0)] _
    refine XS.daddS X119.here hx rfl (v := (4616189618054758400 : UInt64)) (hb hby d1_69) rfl (own_nnl (by decide +kernel : FP.dadd (0 : UInt64) (4616189618054758400 : UInt64) = (4616189618054758400 : UInt64)) (by unfold NoNaN64; decide)) (by decide +kernel) ?_
    show own_S p e below T119 m 70 #[oR r0, oR r1, oR r2, oR r3, oI 3, oI 4, oD 4616189618054758400, oV, oD 0, oV, oI 3] [(.double 4616189618054758400)] _
    refine XS.dstore X119.here hx rfl (hb hby d1_70) rfl (l' := #[.val (.ref r0), .val (.ref r1), .val (.ref r2), .val (.ref r3), .val (.int 3), .val (.int 4), .val (.double 4616189618054758400), .second, .val (.double 4616189618054758400), .second, .val (.int 3)]) rfl ?_
    show own_S p e below T119 m 72 #[oR r0, oR r1, oR r2, oR r3, oI 3, oI 4, oD 4616189618054758400, oV, oD 4616189618054758400, oV, oI 3] [] _
    refine XS.iinc X119.here hx rfl (hb hby d1_72) rfl (l' := #[.val (.ref r0), .val (.ref r1), .val (.ref r2), .val (.ref r3), .val (.int 3), .val (.int 4), .val (.double 4616189618054758400), .second, .val (.double 4616189618054758400), .second, .val (.int 4)]) rfl ?_
    show own_S p e below T119 m 75 #[oR r0, oR r1, oR r2, oR r3, oI 3, oI 4, oD 4616189618054758400, oV, oD 4616189618054758400, oV, oI 4] [] _
    refine XS.goto X119.here hx rfl (pc0 := 75) (pc' := 41) rfl (hb hby d1_75) (by decide) (by decide) ?_
    show own_S p e below T119 m 41 #[oR r0, oR r1, oR r2, oR r3, oI 3, oI 4, oD 4616189618054758400, oV, oD 4616189618054758400, oV, oI 4] [] _
    refine XS.iload X119.here hx rfl (hb hby d1_41) rfl ?_
    show own_S p e below T119 m 43 #[oR r0, oR r1, oR r2, oR r3, oI 3, oI 4, oD 4616189618054758400, oV, oD 4616189618054758400, oV, oI 4] [(.int 4)] _
    refine XS.iload X119.here hx rfl (hb hby d1_43) rfl ?_
    show own_S p e below T119 m 45 #[oR r0, oR r1, oR r2, oR r3, oI 3, oI 4, oD 4616189618054758400, oV, oD 4616189618054758400, oV, oI 4] [(.int 4), (.int 4)] _
    refine XS.icmpYes X119.here hx rfl (pc0 := 45) (pc' := 78) rfl (hb hby d1_45) rfl (flt (by decide : ¬ ((4 : Int32) < (4 : Int32)))).2.1 (by decide) (by decide) ?_
    show own_S p e below T119 m 78 #[oR r0, oR r1, oR r2, oR r3, oI 3, oI 4, oD 4616189618054758400, oV, oD 4616189618054758400, oV, oI 4] [] _
    refine XS.aloadN X119.here hx rfl (hb hby d1_78) rfl rfl ?_
    show own_S p e below T119 m 79 #[oR r0, oR r1, oR r2, oR r3, oI 3, oI 4, oD 4616189618054758400, oV, oD 4616189618054758400, oV, oI 4] [(.ref r0)] _
    refine XS.dload X119.here hx rfl (hb hby d1_79) rfl ?_
    show own_S p e below T119 m 81 #[oR r0, oR r1, oR r2, oR r3, oI 3, oI 4, oD 4616189618054758400, oV, oD 4616189618054758400, oV, oI 4] [(.double 4616189618054758400), (.ref r0)] _
    refine st129 _ ?_
    show own_S p e below T129 m 84 #[oR r0, oR r1, oR r2, oR r3, oI 3, oI 4, oD 4616189618054758400, oV, oD 4616189618054758400, oV, oI 4] [] _
    refine XS.aloadN X129.here hx rfl (hb hby d1_84) rfl rfl ?_
    show own_S p e below T129 m 85 #[oR r0, oR r1, oR r2, oR r3, oI 3, oI 4, oD 4616189618054758400, oV, oD 4616189618054758400, oV, oI 4] [(.ref r0)] _
    refine XS.dload X129.here hx rfl (hb hby d1_85) rfl ?_
    show own_S p e below T129 m 87 #[oR r0, oR r1, oR r2, oR r3, oI 3, oI 4, oD 4616189618054758400, oV, oD 4616189618054758400, oV, oI 4] [(.double 4616189618054758400), (.ref r0)] _
    refine st133 _ ?_
    show own_S p e below T133 m 90 #[oR r0, oR r1, oR r2, oR r3, oI 3, oI 4, oD 4616189618054758400, oV, oD 4616189618054758400, oV, oI 4] [] _
    exact X133.returnOut hx Bd.returns (hb hby d1_90) hr
  · show Q1_3_4 Z r0 r1 r2 r3 u0 u1 u2 u3 u4 u5 u6 kd ko h0 n0 _ T133.heap _
    rw [e133]
    exact ⟨rfl, N133, KK135, ((Fc128.wr W129).wr W133), ((((((Fw102.other W106 (Or.inr (sn21 hw))).other W110 (Or.inr (sn22 hw))).other W115 (Or.inr (sn23 hw))).other W119 (Or.inr (sn24 hw))).other W129 (Or.inr (sn25 hw))).other W133 (Or.inr (sn26 hw))), (((Fw115.other W119 (Or.inr (sn27 hw))).other W129 (Or.inr (sn28 hw))).other W133 (Or.inr (sn29 hw))), ((Fw119.other W129 (Or.inr (sn30 hw))).other W133 (Or.inr (sn31 hw)))⟩
def Q1A (Z : State) (r0 : Addr) (r1 : Addr) (r2 : Addr) (r3 : Addr) (p4 : Int32) (p5 : Int32) (u0 : Value) (u1 : Value) (u2 : Value) (u3 : Value) (u4 : Value) (u5 : Value) (u6 : Value) (kd : ClassId) (ko : ClassId) (h0 : Heap) (n0 : Nat) (v : Option Value) (h : Heap) (L : List Loc) : Prop := v = none ∧ Fr n0 L ∧ (Keep h0 h [r0]) ∧ (Exa Z h r0 "com/example/buurt/buurt/model/CrossTermFrequencies") ∧ (Fld Z h r0 "com/example/buurt/buurt/model/CrossTermFrequencies" "docs" "[I" (.ref r1)) ∧ (Fld Z h r0 "com/example/buurt/buurt/model/CrossTermFrequencies" "from" "I" (.int p4)) ∧ (Fld Z h r0 "com/example/buurt/buurt/model/CrossTermFrequencies" "to" "I" (.int p5))
set_option maxRecDepth 65536 in
set_option maxHeartbeats 40000000 in
theorem rm1A (l : Launch) (Z : State) (a0 : Array Value) (hw : ∀ d ∈ tables_1, d.before a0 Z = true) (ws : List Jvm.Cond) (r0 : Addr) (r1 : Addr) (r2 : Addr) (r3 : Addr) (p4 : Int32) (p5 : Int32) (u0 : Value) (u1 : Value) (u2 : Value) (u3 : Value) (u4 : Value) (u5 : Value) (u6 : Value) (kd : ClassId) (ko : ClassId) (h0 : Heap) (n0 : Nat) (Z0 : n0 ≤ h0.size) (F_docs_r0 : Fld Z h0 r0 "com/example/buurt/buurt/model/CrossTermFrequencies" "docs" "[I" u0) (F_tfs_r0 : Fld Z h0 r0 "com/example/buurt/buurt/model/CrossTermFrequencies" "tfs" "[D" u1) (F_occurs_r0 : Fld Z h0 r0 "com/example/buurt/buurt/model/CrossTermFrequencies" "occurs" "[I" u2) (F_from_r0 : Fld Z h0 r0 "com/example/buurt/buurt/model/CrossTermFrequencies" "from" "I" u3) (F_to_r0 : Fld Z h0 r0 "com/example/buurt/buurt/model/CrossTermFrequencies" "to" "I" u4) (F_documentFrequency_r0 : Fld Z h0 r0 "com/example/buurt/buurt/model/CrossTermFrequencies" "documentFrequency" "D" u5) (F_collectionFrequency_r0 : Fld Z h0 r0 "com/example/buurt/buurt/model/CrossTermFrequencies" "collectionFrequency" "D" u6) (E_r0 : Exa Z h0 r0 "com/example/buurt/buurt/model/CrossTermFrequencies") (g_r0 : n0 ≤ r0) (V_r2 : Arv Z h0 r2 kd .double (4 : Int32) [(.double 4607182418800017408), (.double 4611686018427387904), (.double 4613937818241073152), (.double 4616189618054758400)] (.double 0)) (V_r3 : Arv Z h0 r3 ko .int (4 : Int32) [(.int 1), (.int 1), (.int 1), (.int 1)] (.int 0)) (ne_r2_r0 : r2 ≠ r0) (ne_r3_r0 : r3 ≠ r0) (hft : own_HFT p4 p5) :
    MetFree l (⟨"com/example/buurt/buurt/model/CrossTermFrequencies", "<init>", "([I[D[III)V"⟩ : MethodName) (head1 (Jvm.Cond.code (⟨"com/example/buurt/buurt/model/CrossTermFrequencies", "<init>", "([I[D[III)V"⟩ : MethodName) prog_27_method_1_code 11 none :: ws) ({ frames := 1, cells := 0, slots := 0, locals := 12 } : Room)) (fun a U => a = #[(.ref r0), (.ref r1), (.ref r2), (.ref r3), (.int p4), (.int p5)] ∧ Z.Warmed39 U.vm ∧ U.heap = h0) (fun _ _ _ _ _ => True) (fun _ U o U' => ∃ v L, o = .returned v ∧ Q1A Z r0 r1 r2 r3 p4 p5 u0 u1 u2 u3 u4 u5 u6 kd ko h0 n0 v U'.heap L ∧ FrameEnd U o U' L ({ frames := 1, cells := 0, slots := 0, locals := 12 } : Room).cells ({ frames := 1, cells := 0, slots := 0, locals := 12 } : Room).slots) := by
  unfold own_HFT at hft
  rcases hft with ⟨rfl, rfl⟩ | ⟨rfl, rfl⟩ | ⟨rfl, rfl⟩ | ⟨rfl, rfl⟩ | ⟨rfl, rfl⟩ | ⟨rfl, rfl⟩ | ⟨rfl, rfl⟩ | ⟨rfl, rfl⟩ | ⟨rfl, rfl⟩ | ⟨rfl, rfl⟩ | ⟨rfl, rfl⟩ | ⟨rfl, rfl⟩ | ⟨rfl, rfl⟩ | ⟨rfl, rfl⟩
  · exact rm1_0_0 l Z a0 hw ws r0 r1 r2 r3 u0 u1 u2 u3 u4 u5 u6 kd ko h0 n0 Z0 F_docs_r0 F_tfs_r0 F_occurs_r0 F_from_r0 F_to_r0 F_documentFrequency_r0 F_collectionFrequency_r0 E_r0 g_r0 V_r2 V_r3 ne_r2_r0 ne_r3_r0
  · exact rm1_0_1 l Z a0 hw ws r0 r1 r2 r3 u0 u1 u2 u3 u4 u5 u6 kd ko h0 n0 Z0 F_docs_r0 F_tfs_r0 F_occurs_r0 F_from_r0 F_to_r0 F_documentFrequency_r0 F_collectionFrequency_r0 E_r0 g_r0 V_r2 V_r3 ne_r2_r0 ne_r3_r0
  · exact rm1_0_2 l Z a0 hw ws r0 r1 r2 r3 u0 u1 u2 u3 u4 u5 u6 kd ko h0 n0 Z0 F_docs_r0 F_tfs_r0 F_occurs_r0 F_from_r0 F_to_r0 F_documentFrequency_r0 F_collectionFrequency_r0 E_r0 g_r0 V_r2 V_r3 ne_r2_r0 ne_r3_r0
  · exact rm1_0_3 l Z a0 hw ws r0 r1 r2 r3 u0 u1 u2 u3 u4 u5 u6 kd ko h0 n0 Z0 F_docs_r0 F_tfs_r0 F_occurs_r0 F_from_r0 F_to_r0 F_documentFrequency_r0 F_collectionFrequency_r0 E_r0 g_r0 V_r2 V_r3 ne_r2_r0 ne_r3_r0
  · exact rm1_0_4 l Z a0 hw ws r0 r1 r2 r3 u0 u1 u2 u3 u4 u5 u6 kd ko h0 n0 Z0 F_docs_r0 F_tfs_r0 F_occurs_r0 F_from_r0 F_to_r0 F_documentFrequency_r0 F_collectionFrequency_r0 E_r0 g_r0 V_r2 V_r3 ne_r2_r0 ne_r3_r0
  · exact rm1_1_1 l Z a0 hw ws r0 r1 r2 r3 u0 u1 u2 u3 u4 u5 u6 kd ko h0 n0 Z0 F_docs_r0 F_tfs_r0 F_occurs_r0 F_from_r0 F_to_r0 F_documentFrequency_r0 F_collectionFrequency_r0 E_r0 g_r0 V_r2 V_r3 ne_r2_r0 ne_r3_r0
  · exact rm1_1_2 l Z a0 hw ws r0 r1 r2 r3 u0 u1 u2 u3 u4 u5 u6 kd ko h0 n0 Z0 F_docs_r0 F_tfs_r0 F_occurs_r0 F_from_r0 F_to_r0 F_documentFrequency_r0 F_collectionFrequency_r0 E_r0 g_r0 V_r2 V_r3 ne_r2_r0 ne_r3_r0
  · exact rm1_1_3 l Z a0 hw ws r0 r1 r2 r3 u0 u1 u2 u3 u4 u5 u6 kd ko h0 n0 Z0 F_docs_r0 F_tfs_r0 F_occurs_r0 F_from_r0 F_to_r0 F_documentFrequency_r0 F_collectionFrequency_r0 E_r0 g_r0 V_r2 V_r3 ne_r2_r0 ne_r3_r0
  · exact rm1_1_4 l Z a0 hw ws r0 r1 r2 r3 u0 u1 u2 u3 u4 u5 u6 kd ko h0 n0 Z0 F_docs_r0 F_tfs_r0 F_occurs_r0 F_from_r0 F_to_r0 F_documentFrequency_r0 F_collectionFrequency_r0 E_r0 g_r0 V_r2 V_r3 ne_r2_r0 ne_r3_r0
  · exact rm1_2_2 l Z a0 hw ws r0 r1 r2 r3 u0 u1 u2 u3 u4 u5 u6 kd ko h0 n0 Z0 F_docs_r0 F_tfs_r0 F_occurs_r0 F_from_r0 F_to_r0 F_documentFrequency_r0 F_collectionFrequency_r0 E_r0 g_r0 V_r2 V_r3 ne_r2_r0 ne_r3_r0
  · exact rm1_2_3 l Z a0 hw ws r0 r1 r2 r3 u0 u1 u2 u3 u4 u5 u6 kd ko h0 n0 Z0 F_docs_r0 F_tfs_r0 F_occurs_r0 F_from_r0 F_to_r0 F_documentFrequency_r0 F_collectionFrequency_r0 E_r0 g_r0 V_r2 V_r3 ne_r2_r0 ne_r3_r0
  · exact rm1_2_4 l Z a0 hw ws r0 r1 r2 r3 u0 u1 u2 u3 u4 u5 u6 kd ko h0 n0 Z0 F_docs_r0 F_tfs_r0 F_occurs_r0 F_from_r0 F_to_r0 F_documentFrequency_r0 F_collectionFrequency_r0 E_r0 g_r0 V_r2 V_r3 ne_r2_r0 ne_r3_r0
  · exact rm1_3_3 l Z a0 hw ws r0 r1 r2 r3 u0 u1 u2 u3 u4 u5 u6 kd ko h0 n0 Z0 F_docs_r0 F_tfs_r0 F_occurs_r0 F_from_r0 F_to_r0 F_documentFrequency_r0 F_collectionFrequency_r0 E_r0 g_r0 V_r2 V_r3 ne_r2_r0 ne_r3_r0
  · exact rm1_3_4 l Z a0 hw ws r0 r1 r2 r3 u0 u1 u2 u3 u4 u5 u6 kd ko h0 n0 Z0 F_docs_r0 F_tfs_r0 F_occurs_r0 F_from_r0 F_to_r0 F_documentFrequency_r0 F_collectionFrequency_r0 E_r0 g_r0 V_r2 V_r3 ne_r2_r0 ne_r3_r0
theorem d7_0 : decode jdk_65_method_59_code 0 = .ok (.iload_n 1, 1) := by decide +kernel
theorem d7_1 : decode jdk_65_method_59_code 1 = .ok (.istore 4, 2) := by decide +kernel
theorem d7_3 : decode jdk_65_method_59_code 3 = .ok (.iload_n 2, 1) := by decide +kernel
theorem d7_4 : decode jdk_65_method_59_code 4 = .ok (.iconst 1, 1) := by decide +kernel
theorem d7_5 : decode jdk_65_method_59_code 5 = .ok (.isub, 1) := by decide +kernel
theorem d7_6 : decode jdk_65_method_59_code 6 = .ok (.istore 5, 2) := by decide +kernel
theorem d7_8 : decode jdk_65_method_59_code 8 = .ok (.iload 4, 2) := by decide +kernel
theorem d7_10 : decode jdk_65_method_59_code 10 = .ok (.iload 5, 2) := by decide +kernel
theorem d7_12 : decode jdk_65_method_59_code 12 = .ok (.if_icmp .gt 54, 3) := by decide +kernel
theorem d7_15 : decode jdk_65_method_59_code 15 = .ok (.iload 4, 2) := by decide +kernel
theorem d7_17 : decode jdk_65_method_59_code 17 = .ok (.iload 5, 2) := by decide +kernel
theorem d7_19 : decode jdk_65_method_59_code 19 = .ok (.iadd, 1) := by decide +kernel
theorem d7_20 : decode jdk_65_method_59_code 20 = .ok (.iconst 1, 1) := by decide +kernel
theorem d7_21 : decode jdk_65_method_59_code 21 = .ok (.iushr, 1) := by decide +kernel
theorem d7_22 : decode jdk_65_method_59_code 22 = .ok (.istore 6, 2) := by decide +kernel
theorem d7_24 : decode jdk_65_method_59_code 24 = .ok (.aload_n 0, 1) := by decide +kernel
theorem d7_25 : decode jdk_65_method_59_code 25 = .ok (.iload 6, 2) := by decide +kernel
theorem d7_27 : decode jdk_65_method_59_code 27 = .ok (.iaload, 1) := by decide +kernel
theorem d7_28 : decode jdk_65_method_59_code 28 = .ok (.istore 7, 2) := by decide +kernel
theorem d7_30 : decode jdk_65_method_59_code 30 = .ok (.iload 7, 2) := by decide +kernel
theorem d7_32 : decode jdk_65_method_59_code 32 = .ok (.iload_n 3, 1) := by decide +kernel
theorem d7_33 : decode jdk_65_method_59_code 33 = .ok (.if_icmp .ge 12, 3) := by decide +kernel
theorem d7_45 : decode jdk_65_method_59_code 45 = .ok (.iload 7, 2) := by decide +kernel
theorem d7_47 : decode jdk_65_method_59_code 47 = .ok (.iload_n 3, 1) := by decide +kernel
theorem d7_48 : decode jdk_65_method_59_code 48 = .ok (.if_icmp .le 12, 3) := by decide +kernel
theorem d7_60 : decode jdk_65_method_59_code 60 = .ok (.iload 6, 2) := by decide +kernel
theorem d7_62 : decode jdk_65_method_59_code 62 = .ok (.ireturn, 1) := by decide +kernel
theorem pn1 : plainName "java/util/Arrays" = true := by first | (simp [plainName, overriddenIn]; done) | decide +kernel
theorem ef7_0_1_0 (m : MethodId) (la : Addr) (x0 : Int32) : entryFrame m #[(.ref la), (.int 0), (.int 1), (.int x0)] 8 = mkF m 0 #[.val (.ref la), .val (.int 0), .val (.int 1), .val (.int x0), .unset, .unset, .unset, .unset] [] := by first | (simp [entryFrame, mkF, argsToLocals, Value.category]; done) | rfl
def Q7_0_1_0 (Z : State) (la : Addr) (x0 : Int32) (kk : ClassId) (x1 : Int32) (x2 : Int32) (x3 : Int32) (h0 : Heap) (n0 : Nat) (v : Option Value) (h : Heap) (L : List Loc) : Prop := v = some (.int 0) ∧ Fr n0 L ∧ (h = h0)
set_option maxRecDepth 65536 in
set_option maxHeartbeats 40000000 in
theorem rm7_0_1_0 (l : Launch) (Z : State) (a0 : Array Value) (hw : ∀ d ∈ tables_1, d.before a0 Z = true) (ws : List Jvm.Cond) (la : Addr) (x0 : Int32) (kk : ClassId) (x1 : Int32) (x2 : Int32) (x3 : Int32) (h0 : Heap) (n0 : Nat) (Z0 : n0 ≤ h0.size) (V_la : Arv Z h0 la kk .int (4 : Int32) [(.int x0), (.int x1), (.int x2), (.int x3)] (.int 0)) (o01 : x0 < x1) (o02 : x0 < x2) (o03 : x0 < x3) (o12 : x1 < x2) (o13 : x1 < x3) (o23 : x2 < x3) :
    MetFree l (⟨"java/util/Arrays", "binarySearch0", "([IIII)I"⟩ : MethodName) (head1 (Jvm.Cond.code (⟨"java/util/Arrays", "binarySearch0", "([IIII)I"⟩ : MethodName) jdk_65_method_59_code 8 (some .int) :: ws) ({ frames := 0, cells := 0, slots := 0, locals := 0 } : Room)) (fun a U => a = #[(.ref la), (.int 0), (.int 1), (.int x0)] ∧ Z.Warmed39 U.vm ∧ U.heap = h0) (fun _ _ _ _ _ => True) (fun _ U o U' => ∃ v L, o = .returned v ∧ Q7_0_1_0 Z la x0 kk x1 x2 x3 h0 n0 v U'.heap L ∧ FrameEnd U o U' L ({ frames := 0, cells := 0, slots := 0, locals := 0 } : Room).cells ({ frames := 0, cells := 0, slots := 0, locals := 0 } : Room).slots) := by
  refine MetFree.of_bodySF (plainFor_of_name pn1) hisR ?_
  intro p e s m args below meth c s₁ Bd hml0 hP hK
  obtain ⟨rfl, hZ, hh⟩ := hP
  have hx := Bd.exec
  have hby := Bd.bytes
  have hml : c.maxLocals = 8 := hml0
  have hown : s.vm.findClass "java/util/Arrays" = some m.cls := findClass_of_methodNamed Bd.named
  have hnm := (name_of_methodNamed Bd.named Bd.method).1
  have X0 : Stand p l e ({ frames := 0, cells := 0, slots := 0, locals := 0 } : Room) s m #[(.ref la), (.int 0), (.int 1), (.int x0)] below meth c s₁ [] 0 0 := Stand.of_body Bd
  have e0 : s₁.heap = h0 := by rw [← hh, Bd.state]; rfl
  have N0 := Fr.nil n0
  have pre0 : ∀ t, Steps p.tables e below (s₁.setTop (mkF m 0 #[.val (.ref la), .val (.int 0), .val (.int 1), .val (.int x0), .unset, .unset, .unset, .unset] [])) t → Steps p.tables e below (s₁.setTop (entryFrame m #[(.ref la), (.int 0), (.int 1), (.int x0)] 8)) t := fun t k => castTop (ef7_0_1_0 m la x0) k
  obtain ⟨cl101, Ar101, qk101, Sz101, Nz101, Hh101, Gg101⟩ := id V_la
  have hin101 : ¬ ((0 : Int32) < 0 ∨ cl101.slots.size ≤ ((0 : Int32)).toNatClampNeg) := inb_of Sz101 ⟨by decide, by decide⟩
  have hat101 : cl101.slots[((0 : Int32)).toNatClampNeg]? = some (.int x0) := Has.at Hh101 hin101 rfl
  obtain ⟨fs, hr, hrun, hended, hW, hsame⟩ := X0.leave (v := some (.int 0)) (fun h => by rw [Bd.returns] at h; cases h)
  refine ⟨_, _, pre0 _ ?_, hrun, hended, _, _, rfl, ?_, ⟨_, rfl⟩, hW, hsame.mono (by decide) (by decide)⟩
  · show own_S p e below s₁ m 0 #[oR la, oI 0, oI 1, oI x0, oU, oU, oU, oU] [] _
    refine XS.iloadN X0.here hx rfl (hb hby d7_0) rfl ?_
    show own_S p e below s₁ m 1 #[oR la, oI 0, oI 1, oI x0, oU, oU, oU, oU] [(.int 0)] _
    refine XS.istore X0.here hx rfl (hb hby d7_1) rfl (l' := #[.val (.ref la), .val (.int 0), .val (.int 1), .val (.int x0), .val (.int 0), .unset, .unset, .unset]) rfl ?_
    show own_S p e below s₁ m 3 #[oR la, oI 0, oI 1, oI x0, oI 0, oU, oU, oU] [] _
    refine XS.iloadN X0.here hx rfl (hb hby d7_3) rfl ?_
    show own_S p e below s₁ m 4 #[oR la, oI 0, oI 1, oI x0, oI 0, oU, oU, oU] [(.int 1)] _
    refine XS.iconst X0.here hx rfl (hb hby d7_4) ?_
    show own_S p e below s₁ m 5 #[oR la, oI 0, oI 1, oI x0, oI 0, oU, oU, oU] [(.int 1), (.int 1)] _
    refine XS.isub X0.here hx rfl (hb hby d7_5) rfl ?_
    show own_S p e below s₁ m 6 #[oR la, oI 0, oI 1, oI x0, oI 0, oU, oU, oU] [(.int ((1 : Int32) - (1 : Int32)))] _
    refine reI (by decide : ((1 : Int32) - (1 : Int32)) = (0 : Int32)) ?_
    show own_S p e below s₁ m 6 #[oR la, oI 0, oI 1, oI x0, oI 0, oU, oU, oU] [(.int 0)] _
    refine XS.istore X0.here hx rfl (hb hby d7_6) rfl (l' := #[.val (.ref la), .val (.int 0), .val (.int 1), .val (.int x0), .val (.int 0), .val (.int 0), .unset, .unset]) rfl ?_
    show own_S p e below s₁ m 8 #[oR la, oI 0, oI 1, oI x0, oI 0, oI 0, oU, oU] [] _
    refine XS.iload X0.here hx rfl (hb hby d7_8) rfl ?_
    show own_S p e below s₁ m 10 #[oR la, oI 0, oI 1, oI x0, oI 0, oI 0, oU, oU] [(.int 0)] _
    refine XS.iload X0.here hx rfl (hb hby d7_10) rfl ?_
    show own_S p e below s₁ m 12 #[oR la, oI 0, oI 1, oI x0, oI 0, oI 0, oU, oU] [(.int 0), (.int 0)] _
    refine XS.icmpNo X0.here hx rfl (hb hby d7_12) rfl (flt (by decide : ¬ ((0 : Int32) < (0 : Int32)))).2.2.1 ?_
    show own_S p e below s₁ m 15 #[oR la, oI 0, oI 1, oI x0, oI 0, oI 0, oU, oU] [] _
    refine XS.iload X0.here hx rfl (hb hby d7_15) rfl ?_
    show own_S p e below s₁ m 17 #[oR la, oI 0, oI 1, oI x0, oI 0, oI 0, oU, oU] [(.int 0)] _
    refine XS.iload X0.here hx rfl (hb hby d7_17) rfl ?_
    show own_S p e below s₁ m 19 #[oR la, oI 0, oI 1, oI x0, oI 0, oI 0, oU, oU] [(.int 0), (.int 0)] _
    refine XS.iadd X0.here hx rfl (hb hby d7_19) rfl ?_
    show own_S p e below s₁ m 20 #[oR la, oI 0, oI 1, oI x0, oI 0, oI 0, oU, oU] [(.int ((0 : Int32) + (0 : Int32)))] _
    refine reI (by decide : ((0 : Int32) + (0 : Int32)) = (0 : Int32)) ?_
    show own_S p e below s₁ m 20 #[oR la, oI 0, oI 1, oI x0, oI 0, oI 0, oU, oU] [(.int 0)] _
    refine XS.iconst X0.here hx rfl (hb hby d7_20) ?_
    show own_S p e below s₁ m 21 #[oR la, oI 0, oI 1, oI x0, oI 0, oI 0, oU, oU] [(.int 1), (.int 0)] _
    refine XS.iushr X0.here hx rfl (hb hby d7_21) rfl ?_
    show own_S p e below s₁ m 22 #[oR la, oI 0, oI 1, oI x0, oI 0, oI 0, oU, oU] [(.int (((0 : Int32).toUInt32 >>> ((1 : Int32) &&& 31).toUInt32).toInt32))] _
    refine reI (by decide : (((0 : Int32).toUInt32 >>> ((1 : Int32) &&& 31).toUInt32).toInt32) = (0 : Int32)) ?_
    show own_S p e below s₁ m 22 #[oR la, oI 0, oI 1, oI x0, oI 0, oI 0, oU, oU] [(.int 0)] _
    refine XS.istore X0.here hx rfl (hb hby d7_22) rfl (l' := #[.val (.ref la), .val (.int 0), .val (.int 1), .val (.int x0), .val (.int 0), .val (.int 0), .val (.int 0), .unset]) rfl ?_
    show own_S p e below s₁ m 24 #[oR la, oI 0, oI 1, oI x0, oI 0, oI 0, oI 0, oU] [] _
    refine XS.aloadN X0.here hx rfl (hb hby d7_24) rfl rfl ?_
    show own_S p e below s₁ m 25 #[oR la, oI 0, oI 1, oI x0, oI 0, oI 0, oI 0, oU] [(.ref la)] _
    refine XS.iload X0.here hx rfl (hb hby d7_25) rfl ?_
    show own_S p e below s₁ m 27 #[oR la, oI 0, oI 1, oI x0, oI 0, oI 0, oI 0, oU] [(.int 0), (.ref la)] _
    refine X0.iaload hx (j := (0 : Int32)) (v := (.int x0)) (by rw [e0]; exact Ar101.1) (State.isArrayOf_alike hZ.alike Ar101.2.1) Ar101.2.2 hin101 hat101 (g := (mkF m 27 #[.val (.ref la), .val (.int 0), .val (.int 1), .val (.int x0), .val (.int 0), .val (.int 0), .val (.int 0), .unset] [(.int 0), (.ref la)])) rfl rfl (hb hby d7_27) _ ?_
    show own_S p e below s₁ m 28 #[oR la, oI 0, oI 1, oI x0, oI 0, oI 0, oI 0, oU] [(.int x0)] _
    refine XS.istore X0.here hx rfl (hb hby d7_28) rfl (l' := #[.val (.ref la), .val (.int 0), .val (.int 1), .val (.int x0), .val (.int 0), .val (.int 0), .val (.int 0), .val (.int x0)]) rfl ?_
    show own_S p e below s₁ m 30 #[oR la, oI 0, oI 1, oI x0, oI 0, oI 0, oI 0, oI x0] [] _
    refine XS.iload X0.here hx rfl (hb hby d7_30) rfl ?_
    show own_S p e below s₁ m 32 #[oR la, oI 0, oI 1, oI x0, oI 0, oI 0, oI 0, oI x0] [(.int x0)] _
    refine XS.iloadN X0.here hx rfl (hb hby d7_32) rfl ?_
    show own_S p e below s₁ m 33 #[oR la, oI 0, oI 1, oI x0, oI 0, oI 0, oI 0, oI x0] [(.int x0), (.int x0)] _
    refine XS.icmpYes X0.here hx rfl (pc0 := 33) (pc' := 45) rfl (hb hby d7_33) rfl (flt (own_irr : ¬ (x0 < x0))).2.1 (by decide) (by decide) ?_
    show own_S p e below s₁ m 45 #[oR la, oI 0, oI 1, oI x0, oI 0, oI 0, oI 0, oI x0] [] _
    refine XS.iload X0.here hx rfl (hb hby d7_45) rfl ?_
    show own_S p e below s₁ m 47 #[oR la, oI 0, oI 1, oI x0, oI 0, oI 0, oI 0, oI x0] [(.int x0)] _
    refine XS.iloadN X0.here hx rfl (hb hby d7_47) rfl ?_
    show own_S p e below s₁ m 48 #[oR la, oI 0, oI 1, oI x0, oI 0, oI 0, oI 0, oI x0] [(.int x0), (.int x0)] _
    refine XS.icmpYes X0.here hx rfl (pc0 := 48) (pc' := 60) rfl (hb hby d7_48) rfl (flt (own_irr : ¬ (x0 < x0))).2.2.2 (by decide) (by decide) ?_
    show own_S p e below s₁ m 60 #[oR la, oI 0, oI 1, oI x0, oI 0, oI 0, oI 0, oI x0] [] _
    refine XS.iload X0.here hx rfl (hb hby d7_60) rfl ?_
    show own_S p e below s₁ m 62 #[oR la, oI 0, oI 1, oI x0, oI 0, oI 0, oI 0, oI x0] [(.int 0)] _
    exact retOut X0 hx Bd.returns rfl (Or.inl ⟨rfl, Or.inl rfl, _, rfl⟩) (hb hby d7_62) hr
  · show Q7_0_1_0 Z la x0 kk x1 x2 x3 h0 n0 _ s₁.heap _
    rw [e0]
    exact ⟨rfl, N0, rfl⟩
theorem ef7_0_2_0 (m : MethodId) (la : Addr) (x0 : Int32) : entryFrame m #[(.ref la), (.int 0), (.int 2), (.int x0)] 8 = mkF m 0 #[.val (.ref la), .val (.int 0), .val (.int 2), .val (.int x0), .unset, .unset, .unset, .unset] [] := by first | (simp [entryFrame, mkF, argsToLocals, Value.category]; done) | rfl
def Q7_0_2_0 (Z : State) (la : Addr) (x0 : Int32) (kk : ClassId) (x1 : Int32) (x2 : Int32) (x3 : Int32) (h0 : Heap) (n0 : Nat) (v : Option Value) (h : Heap) (L : List Loc) : Prop := v = some (.int 0) ∧ Fr n0 L ∧ (h = h0)
set_option maxRecDepth 65536 in
set_option maxHeartbeats 40000000 in
theorem rm7_0_2_0 (l : Launch) (Z : State) (a0 : Array Value) (hw : ∀ d ∈ tables_1, d.before a0 Z = true) (ws : List Jvm.Cond) (la : Addr) (x0 : Int32) (kk : ClassId) (x1 : Int32) (x2 : Int32) (x3 : Int32) (h0 : Heap) (n0 : Nat) (Z0 : n0 ≤ h0.size) (V_la : Arv Z h0 la kk .int (4 : Int32) [(.int x0), (.int x1), (.int x2), (.int x3)] (.int 0)) (o01 : x0 < x1) (o02 : x0 < x2) (o03 : x0 < x3) (o12 : x1 < x2) (o13 : x1 < x3) (o23 : x2 < x3) :
    MetFree l (⟨"java/util/Arrays", "binarySearch0", "([IIII)I"⟩ : MethodName) (head1 (Jvm.Cond.code (⟨"java/util/Arrays", "binarySearch0", "([IIII)I"⟩ : MethodName) jdk_65_method_59_code 8 (some .int) :: ws) ({ frames := 0, cells := 0, slots := 0, locals := 0 } : Room)) (fun a U => a = #[(.ref la), (.int 0), (.int 2), (.int x0)] ∧ Z.Warmed39 U.vm ∧ U.heap = h0) (fun _ _ _ _ _ => True) (fun _ U o U' => ∃ v L, o = .returned v ∧ Q7_0_2_0 Z la x0 kk x1 x2 x3 h0 n0 v U'.heap L ∧ FrameEnd U o U' L ({ frames := 0, cells := 0, slots := 0, locals := 0 } : Room).cells ({ frames := 0, cells := 0, slots := 0, locals := 0 } : Room).slots) := by
  refine MetFree.of_bodySF (plainFor_of_name pn1) hisR ?_
  intro p e s m args below meth c s₁ Bd hml0 hP hK
  obtain ⟨rfl, hZ, hh⟩ := hP
  have hx := Bd.exec
  have hby := Bd.bytes
  have hml : c.maxLocals = 8 := hml0
  have hown : s.vm.findClass "java/util/Arrays" = some m.cls := findClass_of_methodNamed Bd.named
  have hnm := (name_of_methodNamed Bd.named Bd.method).1
  have X0 : Stand p l e ({ frames := 0, cells := 0, slots := 0, locals := 0 } : Room) s m #[(.ref la), (.int 0), (.int 2), (.int x0)] below meth c s₁ [] 0 0 := Stand.of_body Bd
  have e0 : s₁.heap = h0 := by rw [← hh, Bd.state]; rfl
  have N0 := Fr.nil n0
  have pre0 : ∀ t, Steps p.tables e below (s₁.setTop (mkF m 0 #[.val (.ref la), .val (.int 0), .val (.int 2), .val (.int x0), .unset, .unset, .unset, .unset] [])) t → Steps p.tables e below (s₁.setTop (entryFrame m #[(.ref la), (.int 0), (.int 2), (.int x0)] 8)) t := fun t k => castTop (ef7_0_2_0 m la x0) k
  obtain ⟨cl101, Ar101, qk101, Sz101, Nz101, Hh101, Gg101⟩ := id V_la
  have hin101 : ¬ ((0 : Int32) < 0 ∨ cl101.slots.size ≤ ((0 : Int32)).toNatClampNeg) := inb_of Sz101 ⟨by decide, by decide⟩
  have hat101 : cl101.slots[((0 : Int32)).toNatClampNeg]? = some (.int x0) := Has.at Hh101 hin101 rfl
  obtain ⟨fs, hr, hrun, hended, hW, hsame⟩ := X0.leave (v := some (.int 0)) (fun h => by rw [Bd.returns] at h; cases h)
  refine ⟨_, _, pre0 _ ?_, hrun, hended, _, _, rfl, ?_, ⟨_, rfl⟩, hW, hsame.mono (by decide) (by decide)⟩
  · show own_S p e below s₁ m 0 #[oR la, oI 0, oI 2, oI x0, oU, oU, oU, oU] [] _
    refine XS.iloadN X0.here hx rfl (hb hby d7_0) rfl ?_
    show own_S p e below s₁ m 1 #[oR la, oI 0, oI 2, oI x0, oU, oU, oU, oU] [(.int 0)] _
    refine XS.istore X0.here hx rfl (hb hby d7_1) rfl (l' := #[.val (.ref la), .val (.int 0), .val (.int 2), .val (.int x0), .val (.int 0), .unset, .unset, .unset]) rfl ?_
    show own_S p e below s₁ m 3 #[oR la, oI 0, oI 2, oI x0, oI 0, oU, oU, oU] [] _
    refine XS.iloadN X0.here hx rfl (hb hby d7_3) rfl ?_
    show own_S p e below s₁ m 4 #[oR la, oI 0, oI 2, oI x0, oI 0, oU, oU, oU] [(.int 2)] _
    refine XS.iconst X0.here hx rfl (hb hby d7_4) ?_
    show own_S p e below s₁ m 5 #[oR la, oI 0, oI 2, oI x0, oI 0, oU, oU, oU] [(.int 1), (.int 2)] _
    refine XS.isub X0.here hx rfl (hb hby d7_5) rfl ?_
    show own_S p e below s₁ m 6 #[oR la, oI 0, oI 2, oI x0, oI 0, oU, oU, oU] [(.int ((2 : Int32) - (1 : Int32)))] _
    refine reI (by decide : ((2 : Int32) - (1 : Int32)) = (1 : Int32)) ?_
    show own_S p e below s₁ m 6 #[oR la, oI 0, oI 2, oI x0, oI 0, oU, oU, oU] [(.int 1)] _
    refine XS.istore X0.here hx rfl (hb hby d7_6) rfl (l' := #[.val (.ref la), .val (.int 0), .val (.int 2), .val (.int x0), .val (.int 0), .val (.int 1), .unset, .unset]) rfl ?_
    show own_S p e below s₁ m 8 #[oR la, oI 0, oI 2, oI x0, oI 0, oI 1, oU, oU] [] _
    refine XS.iload X0.here hx rfl (hb hby d7_8) rfl ?_
    show own_S p e below s₁ m 10 #[oR la, oI 0, oI 2, oI x0, oI 0, oI 1, oU, oU] [(.int 0)] _
    refine XS.iload X0.here hx rfl (hb hby d7_10) rfl ?_
    show own_S p e below s₁ m 12 #[oR la, oI 0, oI 2, oI x0, oI 0, oI 1, oU, oU] [(.int 1), (.int 0)] _
    refine XS.icmpNo X0.here hx rfl (hb hby d7_12) rfl (flt (by decide : ¬ ((1 : Int32) < (0 : Int32)))).2.2.1 ?_
    show own_S p e below s₁ m 15 #[oR la, oI 0, oI 2, oI x0, oI 0, oI 1, oU, oU] [] _
    refine XS.iload X0.here hx rfl (hb hby d7_15) rfl ?_
    show own_S p e below s₁ m 17 #[oR la, oI 0, oI 2, oI x0, oI 0, oI 1, oU, oU] [(.int 0)] _
    refine XS.iload X0.here hx rfl (hb hby d7_17) rfl ?_
    show own_S p e below s₁ m 19 #[oR la, oI 0, oI 2, oI x0, oI 0, oI 1, oU, oU] [(.int 1), (.int 0)] _
    refine XS.iadd X0.here hx rfl (hb hby d7_19) rfl ?_
    show own_S p e below s₁ m 20 #[oR la, oI 0, oI 2, oI x0, oI 0, oI 1, oU, oU] [(.int ((0 : Int32) + (1 : Int32)))] _
    refine reI (by decide : ((0 : Int32) + (1 : Int32)) = (1 : Int32)) ?_
    show own_S p e below s₁ m 20 #[oR la, oI 0, oI 2, oI x0, oI 0, oI 1, oU, oU] [(.int 1)] _
    refine XS.iconst X0.here hx rfl (hb hby d7_20) ?_
    show own_S p e below s₁ m 21 #[oR la, oI 0, oI 2, oI x0, oI 0, oI 1, oU, oU] [(.int 1), (.int 1)] _
    refine XS.iushr X0.here hx rfl (hb hby d7_21) rfl ?_
    show own_S p e below s₁ m 22 #[oR la, oI 0, oI 2, oI x0, oI 0, oI 1, oU, oU] [(.int (((1 : Int32).toUInt32 >>> ((1 : Int32) &&& 31).toUInt32).toInt32))] _
    refine reI (by decide : (((1 : Int32).toUInt32 >>> ((1 : Int32) &&& 31).toUInt32).toInt32) = (0 : Int32)) ?_
    show own_S p e below s₁ m 22 #[oR la, oI 0, oI 2, oI x0, oI 0, oI 1, oU, oU] [(.int 0)] _
    refine XS.istore X0.here hx rfl (hb hby d7_22) rfl (l' := #[.val (.ref la), .val (.int 0), .val (.int 2), .val (.int x0), .val (.int 0), .val (.int 1), .val (.int 0), .unset]) rfl ?_
    show own_S p e below s₁ m 24 #[oR la, oI 0, oI 2, oI x0, oI 0, oI 1, oI 0, oU] [] _
    refine XS.aloadN X0.here hx rfl (hb hby d7_24) rfl rfl ?_
    show own_S p e below s₁ m 25 #[oR la, oI 0, oI 2, oI x0, oI 0, oI 1, oI 0, oU] [(.ref la)] _
    refine XS.iload X0.here hx rfl (hb hby d7_25) rfl ?_
    show own_S p e below s₁ m 27 #[oR la, oI 0, oI 2, oI x0, oI 0, oI 1, oI 0, oU] [(.int 0), (.ref la)] _
    refine X0.iaload hx (j := (0 : Int32)) (v := (.int x0)) (by rw [e0]; exact Ar101.1) (State.isArrayOf_alike hZ.alike Ar101.2.1) Ar101.2.2 hin101 hat101 (g := (mkF m 27 #[.val (.ref la), .val (.int 0), .val (.int 2), .val (.int x0), .val (.int 0), .val (.int 1), .val (.int 0), .unset] [(.int 0), (.ref la)])) rfl rfl (hb hby d7_27) _ ?_
    show own_S p e below s₁ m 28 #[oR la, oI 0, oI 2, oI x0, oI 0, oI 1, oI 0, oU] [(.int x0)] _
    refine XS.istore X0.here hx rfl (hb hby d7_28) rfl (l' := #[.val (.ref la), .val (.int 0), .val (.int 2), .val (.int x0), .val (.int 0), .val (.int 1), .val (.int 0), .val (.int x0)]) rfl ?_
    show own_S p e below s₁ m 30 #[oR la, oI 0, oI 2, oI x0, oI 0, oI 1, oI 0, oI x0] [] _
    refine XS.iload X0.here hx rfl (hb hby d7_30) rfl ?_
    show own_S p e below s₁ m 32 #[oR la, oI 0, oI 2, oI x0, oI 0, oI 1, oI 0, oI x0] [(.int x0)] _
    refine XS.iloadN X0.here hx rfl (hb hby d7_32) rfl ?_
    show own_S p e below s₁ m 33 #[oR la, oI 0, oI 2, oI x0, oI 0, oI 1, oI 0, oI x0] [(.int x0), (.int x0)] _
    refine XS.icmpYes X0.here hx rfl (pc0 := 33) (pc' := 45) rfl (hb hby d7_33) rfl (flt (own_irr : ¬ (x0 < x0))).2.1 (by decide) (by decide) ?_
    show own_S p e below s₁ m 45 #[oR la, oI 0, oI 2, oI x0, oI 0, oI 1, oI 0, oI x0] [] _
    refine XS.iload X0.here hx rfl (hb hby d7_45) rfl ?_
    show own_S p e below s₁ m 47 #[oR la, oI 0, oI 2, oI x0, oI 0, oI 1, oI 0, oI x0] [(.int x0)] _
    refine XS.iloadN X0.here hx rfl (hb hby d7_47) rfl ?_
    show own_S p e below s₁ m 48 #[oR la, oI 0, oI 2, oI x0, oI 0, oI 1, oI 0, oI x0] [(.int x0), (.int x0)] _
    refine XS.icmpYes X0.here hx rfl (pc0 := 48) (pc' := 60) rfl (hb hby d7_48) rfl (flt (own_irr : ¬ (x0 < x0))).2.2.2 (by decide) (by decide) ?_
    show own_S p e below s₁ m 60 #[oR la, oI 0, oI 2, oI x0, oI 0, oI 1, oI 0, oI x0] [] _
    refine XS.iload X0.here hx rfl (hb hby d7_60) rfl ?_
    show own_S p e below s₁ m 62 #[oR la, oI 0, oI 2, oI x0, oI 0, oI 1, oI 0, oI x0] [(.int 0)] _
    exact retOut X0 hx Bd.returns rfl (Or.inl ⟨rfl, Or.inl rfl, _, rfl⟩) (hb hby d7_62) hr
  · show Q7_0_2_0 Z la x0 kk x1 x2 x3 h0 n0 _ s₁.heap _
    rw [e0]
    exact ⟨rfl, N0, rfl⟩
theorem d7_36 : decode jdk_65_method_59_code 36 = .ok (.iload 6, 2) := by decide +kernel
theorem d7_38 : decode jdk_65_method_59_code 38 = .ok (.iconst 1, 1) := by decide +kernel
theorem d7_39 : decode jdk_65_method_59_code 39 = .ok (.iadd, 1) := by decide +kernel
theorem d7_40 : decode jdk_65_method_59_code 40 = .ok (.istore 4, 2) := by decide +kernel
theorem d7_42 : decode jdk_65_method_59_code 42 = .ok (.goto 21, 3) := by decide +kernel
theorem d7_63 : decode jdk_65_method_59_code 63 = .ok (.goto (-55), 3) := by decide +kernel
theorem ef7_0_2_1 (m : MethodId) (la : Addr) (x1 : Int32) : entryFrame m #[(.ref la), (.int 0), (.int 2), (.int x1)] 8 = mkF m 0 #[.val (.ref la), .val (.int 0), .val (.int 2), .val (.int x1), .unset, .unset, .unset, .unset] [] := by first | (simp [entryFrame, mkF, argsToLocals, Value.category]; done) | rfl
def Q7_0_2_1 (Z : State) (la : Addr) (x1 : Int32) (kk : ClassId) (x0 : Int32) (x2 : Int32) (x3 : Int32) (h0 : Heap) (n0 : Nat) (v : Option Value) (h : Heap) (L : List Loc) : Prop := v = some (.int 1) ∧ Fr n0 L ∧ (h = h0)
set_option maxRecDepth 65536 in
set_option maxHeartbeats 40000000 in
theorem rm7_0_2_1 (l : Launch) (Z : State) (a0 : Array Value) (hw : ∀ d ∈ tables_1, d.before a0 Z = true) (ws : List Jvm.Cond) (la : Addr) (x1 : Int32) (kk : ClassId) (x0 : Int32) (x2 : Int32) (x3 : Int32) (h0 : Heap) (n0 : Nat) (Z0 : n0 ≤ h0.size) (V_la : Arv Z h0 la kk .int (4 : Int32) [(.int x0), (.int x1), (.int x2), (.int x3)] (.int 0)) (o01 : x0 < x1) (o02 : x0 < x2) (o03 : x0 < x3) (o12 : x1 < x2) (o13 : x1 < x3) (o23 : x2 < x3) :
    MetFree l (⟨"java/util/Arrays", "binarySearch0", "([IIII)I"⟩ : MethodName) (head1 (Jvm.Cond.code (⟨"java/util/Arrays", "binarySearch0", "([IIII)I"⟩ : MethodName) jdk_65_method_59_code 8 (some .int) :: ws) ({ frames := 0, cells := 0, slots := 0, locals := 0 } : Room)) (fun a U => a = #[(.ref la), (.int 0), (.int 2), (.int x1)] ∧ Z.Warmed39 U.vm ∧ U.heap = h0) (fun _ _ _ _ _ => True) (fun _ U o U' => ∃ v L, o = .returned v ∧ Q7_0_2_1 Z la x1 kk x0 x2 x3 h0 n0 v U'.heap L ∧ FrameEnd U o U' L ({ frames := 0, cells := 0, slots := 0, locals := 0 } : Room).cells ({ frames := 0, cells := 0, slots := 0, locals := 0 } : Room).slots) := by
  refine MetFree.of_bodySF (plainFor_of_name pn1) hisR ?_
  intro p e s m args below meth c s₁ Bd hml0 hP hK
  obtain ⟨rfl, hZ, hh⟩ := hP
  have hx := Bd.exec
  have hby := Bd.bytes
  have hml : c.maxLocals = 8 := hml0
  have hown : s.vm.findClass "java/util/Arrays" = some m.cls := findClass_of_methodNamed Bd.named
  have hnm := (name_of_methodNamed Bd.named Bd.method).1
  have X0 : Stand p l e ({ frames := 0, cells := 0, slots := 0, locals := 0 } : Room) s m #[(.ref la), (.int 0), (.int 2), (.int x1)] below meth c s₁ [] 0 0 := Stand.of_body Bd
  have e0 : s₁.heap = h0 := by rw [← hh, Bd.state]; rfl
  have N0 := Fr.nil n0
  have pre0 : ∀ t, Steps p.tables e below (s₁.setTop (mkF m 0 #[.val (.ref la), .val (.int 0), .val (.int 2), .val (.int x1), .unset, .unset, .unset, .unset] [])) t → Steps p.tables e below (s₁.setTop (entryFrame m #[(.ref la), (.int 0), (.int 2), (.int x1)] 8)) t := fun t k => castTop (ef7_0_2_1 m la x1) k
  obtain ⟨cl101, Ar101, qk101, Sz101, Nz101, Hh101, Gg101⟩ := id V_la
  have hin101 : ¬ ((0 : Int32) < 0 ∨ cl101.slots.size ≤ ((0 : Int32)).toNatClampNeg) := inb_of Sz101 ⟨by decide, by decide⟩
  have hat101 : cl101.slots[((0 : Int32)).toNatClampNeg]? = some (.int x0) := Has.at Hh101 hin101 rfl
  obtain ⟨cl102, Ar102, qk102, Sz102, Nz102, Hh102, Gg102⟩ := id V_la
  have hin102 : ¬ ((1 : Int32) < 0 ∨ cl102.slots.size ≤ ((1 : Int32)).toNatClampNeg) := inb_of Sz102 ⟨by decide, by decide⟩
  have hat102 : cl102.slots[((1 : Int32)).toNatClampNeg]? = some (.int x1) := Has.at Hh102 hin102 rfl
  obtain ⟨fs, hr, hrun, hended, hW, hsame⟩ := X0.leave (v := some (.int 1)) (fun h => by rw [Bd.returns] at h; cases h)
  refine ⟨_, _, pre0 _ ?_, hrun, hended, _, _, rfl, ?_, ⟨_, rfl⟩, hW, hsame.mono (by decide) (by decide)⟩
  · show own_S p e below s₁ m 0 #[oR la, oI 0, oI 2, oI x1, oU, oU, oU, oU] [] _
    refine XS.iloadN X0.here hx rfl (hb hby d7_0) rfl ?_
    show own_S p e below s₁ m 1 #[oR la, oI 0, oI 2, oI x1, oU, oU, oU, oU] [(.int 0)] _
    refine XS.istore X0.here hx rfl (hb hby d7_1) rfl (l' := #[.val (.ref la), .val (.int 0), .val (.int 2), .val (.int x1), .val (.int 0), .unset, .unset, .unset]) rfl ?_
    show own_S p e below s₁ m 3 #[oR la, oI 0, oI 2, oI x1, oI 0, oU, oU, oU] [] _
    refine XS.iloadN X0.here hx rfl (hb hby d7_3) rfl ?_
    show own_S p e below s₁ m 4 #[oR la, oI 0, oI 2, oI x1, oI 0, oU, oU, oU] [(.int 2)] _
    refine XS.iconst X0.here hx rfl (hb hby d7_4) ?_
    show own_S p e below s₁ m 5 #[oR la, oI 0, oI 2, oI x1, oI 0, oU, oU, oU] [(.int 1), (.int 2)] _
    refine XS.isub X0.here hx rfl (hb hby d7_5) rfl ?_
    show own_S p e below s₁ m 6 #[oR la, oI 0, oI 2, oI x1, oI 0, oU, oU, oU] [(.int ((2 : Int32) - (1 : Int32)))] _
    refine reI (by decide : ((2 : Int32) - (1 : Int32)) = (1 : Int32)) ?_
    show own_S p e below s₁ m 6 #[oR la, oI 0, oI 2, oI x1, oI 0, oU, oU, oU] [(.int 1)] _
    refine XS.istore X0.here hx rfl (hb hby d7_6) rfl (l' := #[.val (.ref la), .val (.int 0), .val (.int 2), .val (.int x1), .val (.int 0), .val (.int 1), .unset, .unset]) rfl ?_
    show own_S p e below s₁ m 8 #[oR la, oI 0, oI 2, oI x1, oI 0, oI 1, oU, oU] [] _
    refine XS.iload X0.here hx rfl (hb hby d7_8) rfl ?_
    show own_S p e below s₁ m 10 #[oR la, oI 0, oI 2, oI x1, oI 0, oI 1, oU, oU] [(.int 0)] _
    refine XS.iload X0.here hx rfl (hb hby d7_10) rfl ?_
    show own_S p e below s₁ m 12 #[oR la, oI 0, oI 2, oI x1, oI 0, oI 1, oU, oU] [(.int 1), (.int 0)] _
    refine XS.icmpNo X0.here hx rfl (hb hby d7_12) rfl (flt (by decide : ¬ ((1 : Int32) < (0 : Int32)))).2.2.1 ?_
    show own_S p e below s₁ m 15 #[oR la, oI 0, oI 2, oI x1, oI 0, oI 1, oU, oU] [] _
    refine XS.iload X0.here hx rfl (hb hby d7_15) rfl ?_
    show own_S p e below s₁ m 17 #[oR la, oI 0, oI 2, oI x1, oI 0, oI 1, oU, oU] [(.int 0)] _
    refine XS.iload X0.here hx rfl (hb hby d7_17) rfl ?_
    show own_S p e below s₁ m 19 #[oR la, oI 0, oI 2, oI x1, oI 0, oI 1, oU, oU] [(.int 1), (.int 0)] _
    refine XS.iadd X0.here hx rfl (hb hby d7_19) rfl ?_
    show own_S p e below s₁ m 20 #[oR la, oI 0, oI 2, oI x1, oI 0, oI 1, oU, oU] [(.int ((0 : Int32) + (1 : Int32)))] _
    refine reI (by decide : ((0 : Int32) + (1 : Int32)) = (1 : Int32)) ?_
    show own_S p e below s₁ m 20 #[oR la, oI 0, oI 2, oI x1, oI 0, oI 1, oU, oU] [(.int 1)] _
    refine XS.iconst X0.here hx rfl (hb hby d7_20) ?_
    show own_S p e below s₁ m 21 #[oR la, oI 0, oI 2, oI x1, oI 0, oI 1, oU, oU] [(.int 1), (.int 1)] _
    refine XS.iushr X0.here hx rfl (hb hby d7_21) rfl ?_
    show own_S p e below s₁ m 22 #[oR la, oI 0, oI 2, oI x1, oI 0, oI 1, oU, oU] [(.int (((1 : Int32).toUInt32 >>> ((1 : Int32) &&& 31).toUInt32).toInt32))] _
    refine reI (by decide : (((1 : Int32).toUInt32 >>> ((1 : Int32) &&& 31).toUInt32).toInt32) = (0 : Int32)) ?_
    show own_S p e below s₁ m 22 #[oR la, oI 0, oI 2, oI x1, oI 0, oI 1, oU, oU] [(.int 0)] _
    refine XS.istore X0.here hx rfl (hb hby d7_22) rfl (l' := #[.val (.ref la), .val (.int 0), .val (.int 2), .val (.int x1), .val (.int 0), .val (.int 1), .val (.int 0), .unset]) rfl ?_
    show own_S p e below s₁ m 24 #[oR la, oI 0, oI 2, oI x1, oI 0, oI 1, oI 0, oU] [] _
    refine XS.aloadN X0.here hx rfl (hb hby d7_24) rfl rfl ?_
    show own_S p e below s₁ m 25 #[oR la, oI 0, oI 2, oI x1, oI 0, oI 1, oI 0, oU] [(.ref la)] _
    refine XS.iload X0.here hx rfl (hb hby d7_25) rfl ?_
    show own_S p e below s₁ m 27 #[oR la, oI 0, oI 2, oI x1, oI 0, oI 1, oI 0, oU] [(.int 0), (.ref la)] _
    refine X0.iaload hx (j := (0 : Int32)) (v := (.int x0)) (by rw [e0]; exact Ar101.1) (State.isArrayOf_alike hZ.alike Ar101.2.1) Ar101.2.2 hin101 hat101 (g := (mkF m 27 #[.val (.ref la), .val (.int 0), .val (.int 2), .val (.int x1), .val (.int 0), .val (.int 1), .val (.int 0), .unset] [(.int 0), (.ref la)])) rfl rfl (hb hby d7_27) _ ?_
    show own_S p e below s₁ m 28 #[oR la, oI 0, oI 2, oI x1, oI 0, oI 1, oI 0, oU] [(.int x0)] _
    refine XS.istore X0.here hx rfl (hb hby d7_28) rfl (l' := #[.val (.ref la), .val (.int 0), .val (.int 2), .val (.int x1), .val (.int 0), .val (.int 1), .val (.int 0), .val (.int x0)]) rfl ?_
    show own_S p e below s₁ m 30 #[oR la, oI 0, oI 2, oI x1, oI 0, oI 1, oI 0, oI x0] [] _
    refine XS.iload X0.here hx rfl (hb hby d7_30) rfl ?_
    show own_S p e below s₁ m 32 #[oR la, oI 0, oI 2, oI x1, oI 0, oI 1, oI 0, oI x0] [(.int x0)] _
    refine XS.iloadN X0.here hx rfl (hb hby d7_32) rfl ?_
    show own_S p e below s₁ m 33 #[oR la, oI 0, oI 2, oI x1, oI 0, oI 1, oI 0, oI x0] [(.int x1), (.int x0)] _
    refine XS.icmpNo X0.here hx rfl (hb hby d7_33) rfl (tlt (o01 : x0 < x1)).2.1 ?_
    show own_S p e below s₁ m 36 #[oR la, oI 0, oI 2, oI x1, oI 0, oI 1, oI 0, oI x0] [] _
    refine XS.iload X0.here hx rfl (hb hby d7_36) rfl ?_
    show own_S p e below s₁ m 38 #[oR la, oI 0, oI 2, oI x1, oI 0, oI 1, oI 0, oI x0] [(.int 0)] _
    refine XS.iconst X0.here hx rfl (hb hby d7_38) ?_
    show own_S p e below s₁ m 39 #[oR la, oI 0, oI 2, oI x1, oI 0, oI 1, oI 0, oI x0] [(.int 1), (.int 0)] _
    refine XS.iadd X0.here hx rfl (hb hby d7_39) rfl ?_
    show own_S p e below s₁ m 40 #[oR la, oI 0, oI 2, oI x1, oI 0, oI 1, oI 0, oI x0] [(.int ((0 : Int32) + (1 : Int32)))] _
    refine reI (by decide : ((0 : Int32) + (1 : Int32)) = (1 : Int32)) ?_
    show own_S p e below s₁ m 40 #[oR la, oI 0, oI 2, oI x1, oI 0, oI 1, oI 0, oI x0] [(.int 1)] _
    refine XS.istore X0.here hx rfl (hb hby d7_40) rfl (l' := #[.val (.ref la), .val (.int 0), .val (.int 2), .val (.int x1), .val (.int 1), .val (.int 1), .val (.int 0), .val (.int x0)]) rfl ?_
    show own_S p e below s₁ m 42 #[oR la, oI 0, oI 2, oI x1, oI 1, oI 1, oI 0, oI x0] [] _
    refine XS.goto X0.here hx rfl (pc0 := 42) (pc' := 63) rfl (hb hby d7_42) (by decide) (by decide) ?_
    show own_S p e below s₁ m 63 #[oR la, oI 0, oI 2, oI x1, oI 1, oI 1, oI 0, oI x0] [] _
    refine XS.goto X0.here hx rfl (pc0 := 63) (pc' := 8) rfl (hb hby d7_63) (by decide) (by decide) ?_
    show own_S p e below s₁ m 8 #[oR la, oI 0, oI 2, oI x1, oI 1, oI 1, oI 0, oI x0] [] _
    refine XS.iload X0.here hx rfl (hb hby d7_8) rfl ?_
    show own_S p e below s₁ m 10 #[oR la, oI 0, oI 2, oI x1, oI 1, oI 1, oI 0, oI x0] [(.int 1)] _
    refine XS.iload X0.here hx rfl (hb hby d7_10) rfl ?_
    show own_S p e below s₁ m 12 #[oR la, oI 0, oI 2, oI x1, oI 1, oI 1, oI 0, oI x0] [(.int 1), (.int 1)] _
    refine XS.icmpNo X0.here hx rfl (hb hby d7_12) rfl (flt (by decide : ¬ ((1 : Int32) < (1 : Int32)))).2.2.1 ?_
    show own_S p e below s₁ m 15 #[oR la, oI 0, oI 2, oI x1, oI 1, oI 1, oI 0, oI x0] [] _
    refine XS.iload X0.here hx rfl (hb hby d7_15) rfl ?_
    show own_S p e below s₁ m 17 #[oR la, oI 0, oI 2, oI x1, oI 1, oI 1, oI 0, oI x0] [(.int 1)] _
    refine XS.iload X0.here hx rfl (hb hby d7_17) rfl ?_
    show own_S p e below s₁ m 19 #[oR la, oI 0, oI 2, oI x1, oI 1, oI 1, oI 0, oI x0] [(.int 1), (.int 1)] _
    refine XS.iadd X0.here hx rfl (hb hby d7_19) rfl ?_
    show own_S p e below s₁ m 20 #[oR la, oI 0, oI 2, oI x1, oI 1, oI 1, oI 0, oI x0] [(.int ((1 : Int32) + (1 : Int32)))] _
    refine reI (by decide : ((1 : Int32) + (1 : Int32)) = (2 : Int32)) ?_
    show own_S p e below s₁ m 20 #[oR la, oI 0, oI 2, oI x1, oI 1, oI 1, oI 0, oI x0] [(.int 2)] _
    refine XS.iconst X0.here hx rfl (hb hby d7_20) ?_
    show own_S p e below s₁ m 21 #[oR la, oI 0, oI 2, oI x1, oI 1, oI 1, oI 0, oI x0] [(.int 1), (.int 2)] _
    refine XS.iushr X0.here hx rfl (hb hby d7_21) rfl ?_
    show own_S p e below s₁ m 22 #[oR la, oI 0, oI 2, oI x1, oI 1, oI 1, oI 0, oI x0] [(.int (((2 : Int32).toUInt32 >>> ((1 : Int32) &&& 31).toUInt32).toInt32))] _
    refine reI (by decide : (((2 : Int32).toUInt32 >>> ((1 : Int32) &&& 31).toUInt32).toInt32) = (1 : Int32)) ?_
    show own_S p e below s₁ m 22 #[oR la, oI 0, oI 2, oI x1, oI 1, oI 1, oI 0, oI x0] [(.int 1)] _
    refine XS.istore X0.here hx rfl (hb hby d7_22) rfl (l' := #[.val (.ref la), .val (.int 0), .val (.int 2), .val (.int x1), .val (.int 1), .val (.int 1), .val (.int 1), .val (.int x0)]) rfl ?_
    show own_S p e below s₁ m 24 #[oR la, oI 0, oI 2, oI x1, oI 1, oI 1, oI 1, oI x0] [] _
    refine XS.aloadN X0.here hx rfl (hb hby d7_24) rfl rfl ?_
    show own_S p e below s₁ m 25 #[oR la, oI 0, oI 2, oI x1, oI 1, oI 1, oI 1, oI x0] [(.ref la)] _
    refine XS.iload X0.here hx rfl (hb hby d7_25) rfl ?_
    show own_S p e below s₁ m 27 #[oR la, oI 0, oI 2, oI x1, oI 1, oI 1, oI 1, oI x0] [(.int 1), (.ref la)] _
    refine X0.iaload hx (j := (1 : Int32)) (v := (.int x1)) (by rw [e0]; exact Ar102.1) (State.isArrayOf_alike hZ.alike Ar102.2.1) Ar102.2.2 hin102 hat102 (g := (mkF m 27 #[.val (.ref la), .val (.int 0), .val (.int 2), .val (.int x1), .val (.int 1), .val (.int 1), .val (.int 1), .val (.int x0)] [(.int 1), (.ref la)])) rfl rfl (hb hby d7_27) _ ?_
    show own_S p e below s₁ m 28 #[oR la, oI 0, oI 2, oI x1, oI 1, oI 1, oI 1, oI x0] [(.int x1)] _
    refine XS.istore X0.here hx rfl (hb hby d7_28) rfl (l' := #[.val (.ref la), .val (.int 0), .val (.int 2), .val (.int x1), .val (.int 1), .val (.int 1), .val (.int 1), .val (.int x1)]) rfl ?_
    show own_S p e below s₁ m 30 #[oR la, oI 0, oI 2, oI x1, oI 1, oI 1, oI 1, oI x1] [] _
    refine XS.iload X0.here hx rfl (hb hby d7_30) rfl ?_
    show own_S p e below s₁ m 32 #[oR la, oI 0, oI 2, oI x1, oI 1, oI 1, oI 1, oI x1] [(.int x1)] _
    refine XS.iloadN X0.here hx rfl (hb hby d7_32) rfl ?_
    show own_S p e below s₁ m 33 #[oR la, oI 0, oI 2, oI x1, oI 1, oI 1, oI 1, oI x1] [(.int x1), (.int x1)] _
    refine XS.icmpYes X0.here hx rfl (pc0 := 33) (pc' := 45) rfl (hb hby d7_33) rfl (flt (own_irr : ¬ (x1 < x1))).2.1 (by decide) (by decide) ?_
    show own_S p e below s₁ m 45 #[oR la, oI 0, oI 2, oI x1, oI 1, oI 1, oI 1, oI x1] [] _
    refine XS.iload X0.here hx rfl (hb hby d7_45) rfl ?_
    show own_S p e below s₁ m 47 #[oR la, oI 0, oI 2, oI x1, oI 1, oI 1, oI 1, oI x1] [(.int x1)] _
    refine XS.iloadN X0.here hx rfl (hb hby d7_47) rfl ?_
    show own_S p e below s₁ m 48 #[oR la, oI 0, oI 2, oI x1, oI 1, oI 1, oI 1, oI x1] [(.int x1), (.int x1)] _
    refine XS.icmpYes X0.here hx rfl (pc0 := 48) (pc' := 60) rfl (hb hby d7_48) rfl (flt (own_irr : ¬ (x1 < x1))).2.2.2 (by decide) (by decide) ?_
    show own_S p e below s₁ m 60 #[oR la, oI 0, oI 2, oI x1, oI 1, oI 1, oI 1, oI x1] [] _
    refine XS.iload X0.here hx rfl (hb hby d7_60) rfl ?_
    show own_S p e below s₁ m 62 #[oR la, oI 0, oI 2, oI x1, oI 1, oI 1, oI 1, oI x1] [(.int 1)] _
    exact retOut X0 hx Bd.returns rfl (Or.inl ⟨rfl, Or.inl rfl, _, rfl⟩) (hb hby d7_62) hr
  · show Q7_0_2_1 Z la x1 kk x0 x2 x3 h0 n0 _ s₁.heap _
    rw [e0]
    exact ⟨rfl, N0, rfl⟩
theorem d7_51 : decode jdk_65_method_59_code 51 = .ok (.iload 6, 2) := by decide +kernel
theorem d7_53 : decode jdk_65_method_59_code 53 = .ok (.iconst 1, 1) := by decide +kernel
theorem d7_54 : decode jdk_65_method_59_code 54 = .ok (.isub, 1) := by decide +kernel
theorem d7_55 : decode jdk_65_method_59_code 55 = .ok (.istore 5, 2) := by decide +kernel
theorem d7_57 : decode jdk_65_method_59_code 57 = .ok (.goto 6, 3) := by decide +kernel
theorem ef7_0_3_0 (m : MethodId) (la : Addr) (x0 : Int32) : entryFrame m #[(.ref la), (.int 0), (.int 3), (.int x0)] 8 = mkF m 0 #[.val (.ref la), .val (.int 0), .val (.int 3), .val (.int x0), .unset, .unset, .unset, .unset] [] := by first | (simp [entryFrame, mkF, argsToLocals, Value.category]; done) | rfl
def Q7_0_3_0 (Z : State) (la : Addr) (x0 : Int32) (kk : ClassId) (x1 : Int32) (x2 : Int32) (x3 : Int32) (h0 : Heap) (n0 : Nat) (v : Option Value) (h : Heap) (L : List Loc) : Prop := v = some (.int 0) ∧ Fr n0 L ∧ (h = h0)
set_option maxRecDepth 65536 in
set_option maxHeartbeats 40000000 in
theorem rm7_0_3_0 (l : Launch) (Z : State) (a0 : Array Value) (hw : ∀ d ∈ tables_1, d.before a0 Z = true) (ws : List Jvm.Cond) (la : Addr) (x0 : Int32) (kk : ClassId) (x1 : Int32) (x2 : Int32) (x3 : Int32) (h0 : Heap) (n0 : Nat) (Z0 : n0 ≤ h0.size) (V_la : Arv Z h0 la kk .int (4 : Int32) [(.int x0), (.int x1), (.int x2), (.int x3)] (.int 0)) (o01 : x0 < x1) (o02 : x0 < x2) (o03 : x0 < x3) (o12 : x1 < x2) (o13 : x1 < x3) (o23 : x2 < x3) :
    MetFree l (⟨"java/util/Arrays", "binarySearch0", "([IIII)I"⟩ : MethodName) (head1 (Jvm.Cond.code (⟨"java/util/Arrays", "binarySearch0", "([IIII)I"⟩ : MethodName) jdk_65_method_59_code 8 (some .int) :: ws) ({ frames := 0, cells := 0, slots := 0, locals := 0 } : Room)) (fun a U => a = #[(.ref la), (.int 0), (.int 3), (.int x0)] ∧ Z.Warmed39 U.vm ∧ U.heap = h0) (fun _ _ _ _ _ => True) (fun _ U o U' => ∃ v L, o = .returned v ∧ Q7_0_3_0 Z la x0 kk x1 x2 x3 h0 n0 v U'.heap L ∧ FrameEnd U o U' L ({ frames := 0, cells := 0, slots := 0, locals := 0 } : Room).cells ({ frames := 0, cells := 0, slots := 0, locals := 0 } : Room).slots) := by
  refine MetFree.of_bodySF (plainFor_of_name pn1) hisR ?_
  intro p e s m args below meth c s₁ Bd hml0 hP hK
  obtain ⟨rfl, hZ, hh⟩ := hP
  have hx := Bd.exec
  have hby := Bd.bytes
  have hml : c.maxLocals = 8 := hml0
  have hown : s.vm.findClass "java/util/Arrays" = some m.cls := findClass_of_methodNamed Bd.named
  have hnm := (name_of_methodNamed Bd.named Bd.method).1
  have X0 : Stand p l e ({ frames := 0, cells := 0, slots := 0, locals := 0 } : Room) s m #[(.ref la), (.int 0), (.int 3), (.int x0)] below meth c s₁ [] 0 0 := Stand.of_body Bd
  have e0 : s₁.heap = h0 := by rw [← hh, Bd.state]; rfl
  have N0 := Fr.nil n0
  have pre0 : ∀ t, Steps p.tables e below (s₁.setTop (mkF m 0 #[.val (.ref la), .val (.int 0), .val (.int 3), .val (.int x0), .unset, .unset, .unset, .unset] [])) t → Steps p.tables e below (s₁.setTop (entryFrame m #[(.ref la), (.int 0), (.int 3), (.int x0)] 8)) t := fun t k => castTop (ef7_0_3_0 m la x0) k
  obtain ⟨cl101, Ar101, qk101, Sz101, Nz101, Hh101, Gg101⟩ := id V_la
  have hin101 : ¬ ((1 : Int32) < 0 ∨ cl101.slots.size ≤ ((1 : Int32)).toNatClampNeg) := inb_of Sz101 ⟨by decide, by decide⟩
  have hat101 : cl101.slots[((1 : Int32)).toNatClampNeg]? = some (.int x1) := Has.at Hh101 hin101 rfl
  obtain ⟨cl102, Ar102, qk102, Sz102, Nz102, Hh102, Gg102⟩ := id V_la
  have hin102 : ¬ ((0 : Int32) < 0 ∨ cl102.slots.size ≤ ((0 : Int32)).toNatClampNeg) := inb_of Sz102 ⟨by decide, by decide⟩
  have hat102 : cl102.slots[((0 : Int32)).toNatClampNeg]? = some (.int x0) := Has.at Hh102 hin102 rfl
  obtain ⟨fs, hr, hrun, hended, hW, hsame⟩ := X0.leave (v := some (.int 0)) (fun h => by rw [Bd.returns] at h; cases h)
  refine ⟨_, _, pre0 _ ?_, hrun, hended, _, _, rfl, ?_, ⟨_, rfl⟩, hW, hsame.mono (by decide) (by decide)⟩
  · show own_S p e below s₁ m 0 #[oR la, oI 0, oI 3, oI x0, oU, oU, oU, oU] [] _
    refine XS.iloadN X0.here hx rfl (hb hby d7_0) rfl ?_
    show own_S p e below s₁ m 1 #[oR la, oI 0, oI 3, oI x0, oU, oU, oU, oU] [(.int 0)] _
    refine XS.istore X0.here hx rfl (hb hby d7_1) rfl (l' := #[.val (.ref la), .val (.int 0), .val (.int 3), .val (.int x0), .val (.int 0), .unset, .unset, .unset]) rfl ?_
    show own_S p e below s₁ m 3 #[oR la, oI 0, oI 3, oI x0, oI 0, oU, oU, oU] [] _
    refine XS.iloadN X0.here hx rfl (hb hby d7_3) rfl ?_
    show own_S p e below s₁ m 4 #[oR la, oI 0, oI 3, oI x0, oI 0, oU, oU, oU] [(.int 3)] _
    refine XS.iconst X0.here hx rfl (hb hby d7_4) ?_
    show own_S p e below s₁ m 5 #[oR la, oI 0, oI 3, oI x0, oI 0, oU, oU, oU] [(.int 1), (.int 3)] _
    refine XS.isub X0.here hx rfl (hb hby d7_5) rfl ?_
    show own_S p e below s₁ m 6 #[oR la, oI 0, oI 3, oI x0, oI 0, oU, oU, oU] [(.int ((3 : Int32) - (1 : Int32)))] _
    refine reI (by decide : ((3 : Int32) - (1 : Int32)) = (2 : Int32)) ?_
    show own_S p e below s₁ m 6 #[oR la, oI 0, oI 3, oI x0, oI 0, oU, oU, oU] [(.int 2)] _
    refine XS.istore X0.here hx rfl (hb hby d7_6) rfl (l' := #[.val (.ref la), .val (.int 0), .val (.int 3), .val (.int x0), .val (.int 0), .val (.int 2), .unset, .unset]) rfl ?_
    show own_S p e below s₁ m 8 #[oR la, oI 0, oI 3, oI x0, oI 0, oI 2, oU, oU] [] _
    refine XS.iload X0.here hx rfl (hb hby d7_8) rfl ?_
    show own_S p e below s₁ m 10 #[oR la, oI 0, oI 3, oI x0, oI 0, oI 2, oU, oU] [(.int 0)] _
    refine XS.iload X0.here hx rfl (hb hby d7_10) rfl ?_
    show own_S p e below s₁ m 12 #[oR la, oI 0, oI 3, oI x0, oI 0, oI 2, oU, oU] [(.int 2), (.int 0)] _
    refine XS.icmpNo X0.here hx rfl (hb hby d7_12) rfl (flt (by decide : ¬ ((2 : Int32) < (0 : Int32)))).2.2.1 ?_
    show own_S p e below s₁ m 15 #[oR la, oI 0, oI 3, oI x0, oI 0, oI 2, oU, oU] [] _
    refine XS.iload X0.here hx rfl (hb hby d7_15) rfl ?_
    show own_S p e below s₁ m 17 #[oR la, oI 0, oI 3, oI x0, oI 0, oI 2, oU, oU] [(.int 0)] _
    refine XS.iload X0.here hx rfl (hb hby d7_17) rfl ?_
    show own_S p e below s₁ m 19 #[oR la, oI 0, oI 3, oI x0, oI 0, oI 2, oU, oU] [(.int 2), (.int 0)] _
    refine XS.iadd X0.here hx rfl (hb hby d7_19) rfl ?_
    show own_S p e below s₁ m 20 #[oR la, oI 0, oI 3, oI x0, oI 0, oI 2, oU, oU] [(.int ((0 : Int32) + (2 : Int32)))] _
    refine reI (by decide : ((0 : Int32) + (2 : Int32)) = (2 : Int32)) ?_
    show own_S p e below s₁ m 20 #[oR la, oI 0, oI 3, oI x0, oI 0, oI 2, oU, oU] [(.int 2)] _
    refine XS.iconst X0.here hx rfl (hb hby d7_20) ?_
    show own_S p e below s₁ m 21 #[oR la, oI 0, oI 3, oI x0, oI 0, oI 2, oU, oU] [(.int 1), (.int 2)] _
    refine XS.iushr X0.here hx rfl (hb hby d7_21) rfl ?_
    show own_S p e below s₁ m 22 #[oR la, oI 0, oI 3, oI x0, oI 0, oI 2, oU, oU] [(.int (((2 : Int32).toUInt32 >>> ((1 : Int32) &&& 31).toUInt32).toInt32))] _
    refine reI (by decide : (((2 : Int32).toUInt32 >>> ((1 : Int32) &&& 31).toUInt32).toInt32) = (1 : Int32)) ?_
    show own_S p e below s₁ m 22 #[oR la, oI 0, oI 3, oI x0, oI 0, oI 2, oU, oU] [(.int 1)] _
    refine XS.istore X0.here hx rfl (hb hby d7_22) rfl (l' := #[.val (.ref la), .val (.int 0), .val (.int 3), .val (.int x0), .val (.int 0), .val (.int 2), .val (.int 1), .unset]) rfl ?_
    show own_S p e below s₁ m 24 #[oR la, oI 0, oI 3, oI x0, oI 0, oI 2, oI 1, oU] [] _
    refine XS.aloadN X0.here hx rfl (hb hby d7_24) rfl rfl ?_
    show own_S p e below s₁ m 25 #[oR la, oI 0, oI 3, oI x0, oI 0, oI 2, oI 1, oU] [(.ref la)] _
    refine XS.iload X0.here hx rfl (hb hby d7_25) rfl ?_
    show own_S p e below s₁ m 27 #[oR la, oI 0, oI 3, oI x0, oI 0, oI 2, oI 1, oU] [(.int 1), (.ref la)] _
    refine X0.iaload hx (j := (1 : Int32)) (v := (.int x1)) (by rw [e0]; exact Ar101.1) (State.isArrayOf_alike hZ.alike Ar101.2.1) Ar101.2.2 hin101 hat101 (g := (mkF m 27 #[.val (.ref la), .val (.int 0), .val (.int 3), .val (.int x0), .val (.int 0), .val (.int 2), .val (.int 1), .unset] [(.int 1), (.ref la)])) rfl rfl (hb hby d7_27) _ ?_
    show own_S p e below s₁ m 28 #[oR la, oI 0, oI 3, oI x0, oI 0, oI 2, oI 1, oU] [(.int x1)] _
    refine XS.istore X0.here hx rfl (hb hby d7_28) rfl (l' := #[.val (.ref la), .val (.int 0), .val (.int 3), .val (.int x0), .val (.int 0), .val (.int 2), .val (.int 1), .val (.int x1)]) rfl ?_
    show own_S p e below s₁ m 30 #[oR la, oI 0, oI 3, oI x0, oI 0, oI 2, oI 1, oI x1] [] _
    refine XS.iload X0.here hx rfl (hb hby d7_30) rfl ?_
    show own_S p e below s₁ m 32 #[oR la, oI 0, oI 3, oI x0, oI 0, oI 2, oI 1, oI x1] [(.int x1)] _
    refine XS.iloadN X0.here hx rfl (hb hby d7_32) rfl ?_
    show own_S p e below s₁ m 33 #[oR la, oI 0, oI 3, oI x0, oI 0, oI 2, oI 1, oI x1] [(.int x0), (.int x1)] _
    refine XS.icmpYes X0.here hx rfl (pc0 := 33) (pc' := 45) rfl (hb hby d7_33) rfl (flt (own_asm o01 : ¬ (x1 < x0))).2.1 (by decide) (by decide) ?_
    show own_S p e below s₁ m 45 #[oR la, oI 0, oI 3, oI x0, oI 0, oI 2, oI 1, oI x1] [] _
    refine XS.iload X0.here hx rfl (hb hby d7_45) rfl ?_
    show own_S p e below s₁ m 47 #[oR la, oI 0, oI 3, oI x0, oI 0, oI 2, oI 1, oI x1] [(.int x1)] _
    refine XS.iloadN X0.here hx rfl (hb hby d7_47) rfl ?_
    show own_S p e below s₁ m 48 #[oR la, oI 0, oI 3, oI x0, oI 0, oI 2, oI 1, oI x1] [(.int x0), (.int x1)] _
    refine XS.icmpNo X0.here hx rfl (hb hby d7_48) rfl (tlt (o01 : x0 < x1)).2.2.2 ?_
    show own_S p e below s₁ m 51 #[oR la, oI 0, oI 3, oI x0, oI 0, oI 2, oI 1, oI x1] [] _
    refine XS.iload X0.here hx rfl (hb hby d7_51) rfl ?_
    show own_S p e below s₁ m 53 #[oR la, oI 0, oI 3, oI x0, oI 0, oI 2, oI 1, oI x1] [(.int 1)] _
    refine XS.iconst X0.here hx rfl (hb hby d7_53) ?_
    show own_S p e below s₁ m 54 #[oR la, oI 0, oI 3, oI x0, oI 0, oI 2, oI 1, oI x1] [(.int 1), (.int 1)] _
    refine XS.isub X0.here hx rfl (hb hby d7_54) rfl ?_
    show own_S p e below s₁ m 55 #[oR la, oI 0, oI 3, oI x0, oI 0, oI 2, oI 1, oI x1] [(.int ((1 : Int32) - (1 : Int32)))] _
    refine reI (by decide : ((1 : Int32) - (1 : Int32)) = (0 : Int32)) ?_
    show own_S p e below s₁ m 55 #[oR la, oI 0, oI 3, oI x0, oI 0, oI 2, oI 1, oI x1] [(.int 0)] _
    refine XS.istore X0.here hx rfl (hb hby d7_55) rfl (l' := #[.val (.ref la), .val (.int 0), .val (.int 3), .val (.int x0), .val (.int 0), .val (.int 0), .val (.int 1), .val (.int x1)]) rfl ?_
    show own_S p e below s₁ m 57 #[oR la, oI 0, oI 3, oI x0, oI 0, oI 0, oI 1, oI x1] [] _
    refine XS.goto X0.here hx rfl (pc0 := 57) (pc' := 63) rfl (hb hby d7_57) (by decide) (by decide) ?_
    show own_S p e below s₁ m 63 #[oR la, oI 0, oI 3, oI x0, oI 0, oI 0, oI 1, oI x1] [] _
    refine XS.goto X0.here hx rfl (pc0 := 63) (pc' := 8) rfl (hb hby d7_63) (by decide) (by decide) ?_
    show own_S p e below s₁ m 8 #[oR la, oI 0, oI 3, oI x0, oI 0, oI 0, oI 1, oI x1] [] _
    refine XS.iload X0.here hx rfl (hb hby d7_8) rfl ?_
    show own_S p e below s₁ m 10 #[oR la, oI 0, oI 3, oI x0, oI 0, oI 0, oI 1, oI x1] [(.int 0)] _
    refine XS.iload X0.here hx rfl (hb hby d7_10) rfl ?_
    show own_S p e below s₁ m 12 #[oR la, oI 0, oI 3, oI x0, oI 0, oI 0, oI 1, oI x1] [(.int 0), (.int 0)] _
    refine XS.icmpNo X0.here hx rfl (hb hby d7_12) rfl (flt (by decide : ¬ ((0 : Int32) < (0 : Int32)))).2.2.1 ?_
    show own_S p e below s₁ m 15 #[oR la, oI 0, oI 3, oI x0, oI 0, oI 0, oI 1, oI x1] [] _
    refine XS.iload X0.here hx rfl (hb hby d7_15) rfl ?_
    show own_S p e below s₁ m 17 #[oR la, oI 0, oI 3, oI x0, oI 0, oI 0, oI 1, oI x1] [(.int 0)] _
    refine XS.iload X0.here hx rfl (hb hby d7_17) rfl ?_
    show own_S p e below s₁ m 19 #[oR la, oI 0, oI 3, oI x0, oI 0, oI 0, oI 1, oI x1] [(.int 0), (.int 0)] _
    refine XS.iadd X0.here hx rfl (hb hby d7_19) rfl ?_
    show own_S p e below s₁ m 20 #[oR la, oI 0, oI 3, oI x0, oI 0, oI 0, oI 1, oI x1] [(.int ((0 : Int32) + (0 : Int32)))] _
    refine reI (by decide : ((0 : Int32) + (0 : Int32)) = (0 : Int32)) ?_
    show own_S p e below s₁ m 20 #[oR la, oI 0, oI 3, oI x0, oI 0, oI 0, oI 1, oI x1] [(.int 0)] _
    refine XS.iconst X0.here hx rfl (hb hby d7_20) ?_
    show own_S p e below s₁ m 21 #[oR la, oI 0, oI 3, oI x0, oI 0, oI 0, oI 1, oI x1] [(.int 1), (.int 0)] _
    refine XS.iushr X0.here hx rfl (hb hby d7_21) rfl ?_
    show own_S p e below s₁ m 22 #[oR la, oI 0, oI 3, oI x0, oI 0, oI 0, oI 1, oI x1] [(.int (((0 : Int32).toUInt32 >>> ((1 : Int32) &&& 31).toUInt32).toInt32))] _
    refine reI (by decide : (((0 : Int32).toUInt32 >>> ((1 : Int32) &&& 31).toUInt32).toInt32) = (0 : Int32)) ?_
    show own_S p e below s₁ m 22 #[oR la, oI 0, oI 3, oI x0, oI 0, oI 0, oI 1, oI x1] [(.int 0)] _
    refine XS.istore X0.here hx rfl (hb hby d7_22) rfl (l' := #[.val (.ref la), .val (.int 0), .val (.int 3), .val (.int x0), .val (.int 0), .val (.int 0), .val (.int 0), .val (.int x1)]) rfl ?_
    show own_S p e below s₁ m 24 #[oR la, oI 0, oI 3, oI x0, oI 0, oI 0, oI 0, oI x1] [] _
    refine XS.aloadN X0.here hx rfl (hb hby d7_24) rfl rfl ?_
    show own_S p e below s₁ m 25 #[oR la, oI 0, oI 3, oI x0, oI 0, oI 0, oI 0, oI x1] [(.ref la)] _
    refine XS.iload X0.here hx rfl (hb hby d7_25) rfl ?_
    show own_S p e below s₁ m 27 #[oR la, oI 0, oI 3, oI x0, oI 0, oI 0, oI 0, oI x1] [(.int 0), (.ref la)] _
    refine X0.iaload hx (j := (0 : Int32)) (v := (.int x0)) (by rw [e0]; exact Ar102.1) (State.isArrayOf_alike hZ.alike Ar102.2.1) Ar102.2.2 hin102 hat102 (g := (mkF m 27 #[.val (.ref la), .val (.int 0), .val (.int 3), .val (.int x0), .val (.int 0), .val (.int 0), .val (.int 0), .val (.int x1)] [(.int 0), (.ref la)])) rfl rfl (hb hby d7_27) _ ?_
    show own_S p e below s₁ m 28 #[oR la, oI 0, oI 3, oI x0, oI 0, oI 0, oI 0, oI x1] [(.int x0)] _
    refine XS.istore X0.here hx rfl (hb hby d7_28) rfl (l' := #[.val (.ref la), .val (.int 0), .val (.int 3), .val (.int x0), .val (.int 0), .val (.int 0), .val (.int 0), .val (.int x0)]) rfl ?_
    show own_S p e below s₁ m 30 #[oR la, oI 0, oI 3, oI x0, oI 0, oI 0, oI 0, oI x0] [] _
    refine XS.iload X0.here hx rfl (hb hby d7_30) rfl ?_
    show own_S p e below s₁ m 32 #[oR la, oI 0, oI 3, oI x0, oI 0, oI 0, oI 0, oI x0] [(.int x0)] _
    refine XS.iloadN X0.here hx rfl (hb hby d7_32) rfl ?_
    show own_S p e below s₁ m 33 #[oR la, oI 0, oI 3, oI x0, oI 0, oI 0, oI 0, oI x0] [(.int x0), (.int x0)] _
    refine XS.icmpYes X0.here hx rfl (pc0 := 33) (pc' := 45) rfl (hb hby d7_33) rfl (flt (own_irr : ¬ (x0 < x0))).2.1 (by decide) (by decide) ?_
    show own_S p e below s₁ m 45 #[oR la, oI 0, oI 3, oI x0, oI 0, oI 0, oI 0, oI x0] [] _
    refine XS.iload X0.here hx rfl (hb hby d7_45) rfl ?_
    show own_S p e below s₁ m 47 #[oR la, oI 0, oI 3, oI x0, oI 0, oI 0, oI 0, oI x0] [(.int x0)] _
    refine XS.iloadN X0.here hx rfl (hb hby d7_47) rfl ?_
    show own_S p e below s₁ m 48 #[oR la, oI 0, oI 3, oI x0, oI 0, oI 0, oI 0, oI x0] [(.int x0), (.int x0)] _
    refine XS.icmpYes X0.here hx rfl (pc0 := 48) (pc' := 60) rfl (hb hby d7_48) rfl (flt (own_irr : ¬ (x0 < x0))).2.2.2 (by decide) (by decide) ?_
    show own_S p e below s₁ m 60 #[oR la, oI 0, oI 3, oI x0, oI 0, oI 0, oI 0, oI x0] [] _
    refine XS.iload X0.here hx rfl (hb hby d7_60) rfl ?_
    show own_S p e below s₁ m 62 #[oR la, oI 0, oI 3, oI x0, oI 0, oI 0, oI 0, oI x0] [(.int 0)] _
    exact retOut X0 hx Bd.returns rfl (Or.inl ⟨rfl, Or.inl rfl, _, rfl⟩) (hb hby d7_62) hr
  · show Q7_0_3_0 Z la x0 kk x1 x2 x3 h0 n0 _ s₁.heap _
    rw [e0]
    exact ⟨rfl, N0, rfl⟩
theorem ef7_0_3_1 (m : MethodId) (la : Addr) (x1 : Int32) : entryFrame m #[(.ref la), (.int 0), (.int 3), (.int x1)] 8 = mkF m 0 #[.val (.ref la), .val (.int 0), .val (.int 3), .val (.int x1), .unset, .unset, .unset, .unset] [] := by first | (simp [entryFrame, mkF, argsToLocals, Value.category]; done) | rfl
def Q7_0_3_1 (Z : State) (la : Addr) (x1 : Int32) (kk : ClassId) (x0 : Int32) (x2 : Int32) (x3 : Int32) (h0 : Heap) (n0 : Nat) (v : Option Value) (h : Heap) (L : List Loc) : Prop := v = some (.int 1) ∧ Fr n0 L ∧ (h = h0)
set_option maxRecDepth 65536 in
set_option maxHeartbeats 40000000 in
theorem rm7_0_3_1 (l : Launch) (Z : State) (a0 : Array Value) (hw : ∀ d ∈ tables_1, d.before a0 Z = true) (ws : List Jvm.Cond) (la : Addr) (x1 : Int32) (kk : ClassId) (x0 : Int32) (x2 : Int32) (x3 : Int32) (h0 : Heap) (n0 : Nat) (Z0 : n0 ≤ h0.size) (V_la : Arv Z h0 la kk .int (4 : Int32) [(.int x0), (.int x1), (.int x2), (.int x3)] (.int 0)) (o01 : x0 < x1) (o02 : x0 < x2) (o03 : x0 < x3) (o12 : x1 < x2) (o13 : x1 < x3) (o23 : x2 < x3) :
    MetFree l (⟨"java/util/Arrays", "binarySearch0", "([IIII)I"⟩ : MethodName) (head1 (Jvm.Cond.code (⟨"java/util/Arrays", "binarySearch0", "([IIII)I"⟩ : MethodName) jdk_65_method_59_code 8 (some .int) :: ws) ({ frames := 0, cells := 0, slots := 0, locals := 0 } : Room)) (fun a U => a = #[(.ref la), (.int 0), (.int 3), (.int x1)] ∧ Z.Warmed39 U.vm ∧ U.heap = h0) (fun _ _ _ _ _ => True) (fun _ U o U' => ∃ v L, o = .returned v ∧ Q7_0_3_1 Z la x1 kk x0 x2 x3 h0 n0 v U'.heap L ∧ FrameEnd U o U' L ({ frames := 0, cells := 0, slots := 0, locals := 0 } : Room).cells ({ frames := 0, cells := 0, slots := 0, locals := 0 } : Room).slots) := by
  refine MetFree.of_bodySF (plainFor_of_name pn1) hisR ?_
  intro p e s m args below meth c s₁ Bd hml0 hP hK
  obtain ⟨rfl, hZ, hh⟩ := hP
  have hx := Bd.exec
  have hby := Bd.bytes
  have hml : c.maxLocals = 8 := hml0
  have hown : s.vm.findClass "java/util/Arrays" = some m.cls := findClass_of_methodNamed Bd.named
  have hnm := (name_of_methodNamed Bd.named Bd.method).1
  have X0 : Stand p l e ({ frames := 0, cells := 0, slots := 0, locals := 0 } : Room) s m #[(.ref la), (.int 0), (.int 3), (.int x1)] below meth c s₁ [] 0 0 := Stand.of_body Bd
  have e0 : s₁.heap = h0 := by rw [← hh, Bd.state]; rfl
  have N0 := Fr.nil n0
  have pre0 : ∀ t, Steps p.tables e below (s₁.setTop (mkF m 0 #[.val (.ref la), .val (.int 0), .val (.int 3), .val (.int x1), .unset, .unset, .unset, .unset] [])) t → Steps p.tables e below (s₁.setTop (entryFrame m #[(.ref la), (.int 0), (.int 3), (.int x1)] 8)) t := fun t k => castTop (ef7_0_3_1 m la x1) k
  obtain ⟨cl101, Ar101, qk101, Sz101, Nz101, Hh101, Gg101⟩ := id V_la
  have hin101 : ¬ ((1 : Int32) < 0 ∨ cl101.slots.size ≤ ((1 : Int32)).toNatClampNeg) := inb_of Sz101 ⟨by decide, by decide⟩
  have hat101 : cl101.slots[((1 : Int32)).toNatClampNeg]? = some (.int x1) := Has.at Hh101 hin101 rfl
  obtain ⟨fs, hr, hrun, hended, hW, hsame⟩ := X0.leave (v := some (.int 1)) (fun h => by rw [Bd.returns] at h; cases h)
  refine ⟨_, _, pre0 _ ?_, hrun, hended, _, _, rfl, ?_, ⟨_, rfl⟩, hW, hsame.mono (by decide) (by decide)⟩
  · show own_S p e below s₁ m 0 #[oR la, oI 0, oI 3, oI x1, oU, oU, oU, oU] [] _
    refine XS.iloadN X0.here hx rfl (hb hby d7_0) rfl ?_
    show own_S p e below s₁ m 1 #[oR la, oI 0, oI 3, oI x1, oU, oU, oU, oU] [(.int 0)] _
    refine XS.istore X0.here hx rfl (hb hby d7_1) rfl (l' := #[.val (.ref la), .val (.int 0), .val (.int 3), .val (.int x1), .val (.int 0), .unset, .unset, .unset]) rfl ?_
    show own_S p e below s₁ m 3 #[oR la, oI 0, oI 3, oI x1, oI 0, oU, oU, oU] [] _
    refine XS.iloadN X0.here hx rfl (hb hby d7_3) rfl ?_
    show own_S p e below s₁ m 4 #[oR la, oI 0, oI 3, oI x1, oI 0, oU, oU, oU] [(.int 3)] _
    refine XS.iconst X0.here hx rfl (hb hby d7_4) ?_
    show own_S p e below s₁ m 5 #[oR la, oI 0, oI 3, oI x1, oI 0, oU, oU, oU] [(.int 1), (.int 3)] _
    refine XS.isub X0.here hx rfl (hb hby d7_5) rfl ?_
    show own_S p e below s₁ m 6 #[oR la, oI 0, oI 3, oI x1, oI 0, oU, oU, oU] [(.int ((3 : Int32) - (1 : Int32)))] _
    refine reI (by decide : ((3 : Int32) - (1 : Int32)) = (2 : Int32)) ?_
    show own_S p e below s₁ m 6 #[oR la, oI 0, oI 3, oI x1, oI 0, oU, oU, oU] [(.int 2)] _
    refine XS.istore X0.here hx rfl (hb hby d7_6) rfl (l' := #[.val (.ref la), .val (.int 0), .val (.int 3), .val (.int x1), .val (.int 0), .val (.int 2), .unset, .unset]) rfl ?_
    show own_S p e below s₁ m 8 #[oR la, oI 0, oI 3, oI x1, oI 0, oI 2, oU, oU] [] _
    refine XS.iload X0.here hx rfl (hb hby d7_8) rfl ?_
    show own_S p e below s₁ m 10 #[oR la, oI 0, oI 3, oI x1, oI 0, oI 2, oU, oU] [(.int 0)] _
    refine XS.iload X0.here hx rfl (hb hby d7_10) rfl ?_
    show own_S p e below s₁ m 12 #[oR la, oI 0, oI 3, oI x1, oI 0, oI 2, oU, oU] [(.int 2), (.int 0)] _
    refine XS.icmpNo X0.here hx rfl (hb hby d7_12) rfl (flt (by decide : ¬ ((2 : Int32) < (0 : Int32)))).2.2.1 ?_
    show own_S p e below s₁ m 15 #[oR la, oI 0, oI 3, oI x1, oI 0, oI 2, oU, oU] [] _
    refine XS.iload X0.here hx rfl (hb hby d7_15) rfl ?_
    show own_S p e below s₁ m 17 #[oR la, oI 0, oI 3, oI x1, oI 0, oI 2, oU, oU] [(.int 0)] _
    refine XS.iload X0.here hx rfl (hb hby d7_17) rfl ?_
    show own_S p e below s₁ m 19 #[oR la, oI 0, oI 3, oI x1, oI 0, oI 2, oU, oU] [(.int 2), (.int 0)] _
    refine XS.iadd X0.here hx rfl (hb hby d7_19) rfl ?_
    show own_S p e below s₁ m 20 #[oR la, oI 0, oI 3, oI x1, oI 0, oI 2, oU, oU] [(.int ((0 : Int32) + (2 : Int32)))] _
    refine reI (by decide : ((0 : Int32) + (2 : Int32)) = (2 : Int32)) ?_
    show own_S p e below s₁ m 20 #[oR la, oI 0, oI 3, oI x1, oI 0, oI 2, oU, oU] [(.int 2)] _
    refine XS.iconst X0.here hx rfl (hb hby d7_20) ?_
    show own_S p e below s₁ m 21 #[oR la, oI 0, oI 3, oI x1, oI 0, oI 2, oU, oU] [(.int 1), (.int 2)] _
    refine XS.iushr X0.here hx rfl (hb hby d7_21) rfl ?_
    show own_S p e below s₁ m 22 #[oR la, oI 0, oI 3, oI x1, oI 0, oI 2, oU, oU] [(.int (((2 : Int32).toUInt32 >>> ((1 : Int32) &&& 31).toUInt32).toInt32))] _
    refine reI (by decide : (((2 : Int32).toUInt32 >>> ((1 : Int32) &&& 31).toUInt32).toInt32) = (1 : Int32)) ?_
    show own_S p e below s₁ m 22 #[oR la, oI 0, oI 3, oI x1, oI 0, oI 2, oU, oU] [(.int 1)] _
    refine XS.istore X0.here hx rfl (hb hby d7_22) rfl (l' := #[.val (.ref la), .val (.int 0), .val (.int 3), .val (.int x1), .val (.int 0), .val (.int 2), .val (.int 1), .unset]) rfl ?_
    show own_S p e below s₁ m 24 #[oR la, oI 0, oI 3, oI x1, oI 0, oI 2, oI 1, oU] [] _
    refine XS.aloadN X0.here hx rfl (hb hby d7_24) rfl rfl ?_
    show own_S p e below s₁ m 25 #[oR la, oI 0, oI 3, oI x1, oI 0, oI 2, oI 1, oU] [(.ref la)] _
    refine XS.iload X0.here hx rfl (hb hby d7_25) rfl ?_
    show own_S p e below s₁ m 27 #[oR la, oI 0, oI 3, oI x1, oI 0, oI 2, oI 1, oU] [(.int 1), (.ref la)] _
    refine X0.iaload hx (j := (1 : Int32)) (v := (.int x1)) (by rw [e0]; exact Ar101.1) (State.isArrayOf_alike hZ.alike Ar101.2.1) Ar101.2.2 hin101 hat101 (g := (mkF m 27 #[.val (.ref la), .val (.int 0), .val (.int 3), .val (.int x1), .val (.int 0), .val (.int 2), .val (.int 1), .unset] [(.int 1), (.ref la)])) rfl rfl (hb hby d7_27) _ ?_
    show own_S p e below s₁ m 28 #[oR la, oI 0, oI 3, oI x1, oI 0, oI 2, oI 1, oU] [(.int x1)] _
    refine XS.istore X0.here hx rfl (hb hby d7_28) rfl (l' := #[.val (.ref la), .val (.int 0), .val (.int 3), .val (.int x1), .val (.int 0), .val (.int 2), .val (.int 1), .val (.int x1)]) rfl ?_
    show own_S p e below s₁ m 30 #[oR la, oI 0, oI 3, oI x1, oI 0, oI 2, oI 1, oI x1] [] _
    refine XS.iload X0.here hx rfl (hb hby d7_30) rfl ?_
    show own_S p e below s₁ m 32 #[oR la, oI 0, oI 3, oI x1, oI 0, oI 2, oI 1, oI x1] [(.int x1)] _
    refine XS.iloadN X0.here hx rfl (hb hby d7_32) rfl ?_
    show own_S p e below s₁ m 33 #[oR la, oI 0, oI 3, oI x1, oI 0, oI 2, oI 1, oI x1] [(.int x1), (.int x1)] _
    refine XS.icmpYes X0.here hx rfl (pc0 := 33) (pc' := 45) rfl (hb hby d7_33) rfl (flt (own_irr : ¬ (x1 < x1))).2.1 (by decide) (by decide) ?_
    show own_S p e below s₁ m 45 #[oR la, oI 0, oI 3, oI x1, oI 0, oI 2, oI 1, oI x1] [] _
    refine XS.iload X0.here hx rfl (hb hby d7_45) rfl ?_
    show own_S p e below s₁ m 47 #[oR la, oI 0, oI 3, oI x1, oI 0, oI 2, oI 1, oI x1] [(.int x1)] _
    refine XS.iloadN X0.here hx rfl (hb hby d7_47) rfl ?_
    show own_S p e below s₁ m 48 #[oR la, oI 0, oI 3, oI x1, oI 0, oI 2, oI 1, oI x1] [(.int x1), (.int x1)] _
    refine XS.icmpYes X0.here hx rfl (pc0 := 48) (pc' := 60) rfl (hb hby d7_48) rfl (flt (own_irr : ¬ (x1 < x1))).2.2.2 (by decide) (by decide) ?_
    show own_S p e below s₁ m 60 #[oR la, oI 0, oI 3, oI x1, oI 0, oI 2, oI 1, oI x1] [] _
    refine XS.iload X0.here hx rfl (hb hby d7_60) rfl ?_
    show own_S p e below s₁ m 62 #[oR la, oI 0, oI 3, oI x1, oI 0, oI 2, oI 1, oI x1] [(.int 1)] _
    exact retOut X0 hx Bd.returns rfl (Or.inl ⟨rfl, Or.inl rfl, _, rfl⟩) (hb hby d7_62) hr
  · show Q7_0_3_1 Z la x1 kk x0 x2 x3 h0 n0 _ s₁.heap _
    rw [e0]
    exact ⟨rfl, N0, rfl⟩
theorem ef7_0_3_2 (m : MethodId) (la : Addr) (x2 : Int32) : entryFrame m #[(.ref la), (.int 0), (.int 3), (.int x2)] 8 = mkF m 0 #[.val (.ref la), .val (.int 0), .val (.int 3), .val (.int x2), .unset, .unset, .unset, .unset] [] := by first | (simp [entryFrame, mkF, argsToLocals, Value.category]; done) | rfl
def Q7_0_3_2 (Z : State) (la : Addr) (x2 : Int32) (kk : ClassId) (x0 : Int32) (x1 : Int32) (x3 : Int32) (h0 : Heap) (n0 : Nat) (v : Option Value) (h : Heap) (L : List Loc) : Prop := v = some (.int 2) ∧ Fr n0 L ∧ (h = h0)
set_option maxRecDepth 65536 in
set_option maxHeartbeats 40000000 in
theorem rm7_0_3_2 (l : Launch) (Z : State) (a0 : Array Value) (hw : ∀ d ∈ tables_1, d.before a0 Z = true) (ws : List Jvm.Cond) (la : Addr) (x2 : Int32) (kk : ClassId) (x0 : Int32) (x1 : Int32) (x3 : Int32) (h0 : Heap) (n0 : Nat) (Z0 : n0 ≤ h0.size) (V_la : Arv Z h0 la kk .int (4 : Int32) [(.int x0), (.int x1), (.int x2), (.int x3)] (.int 0)) (o01 : x0 < x1) (o02 : x0 < x2) (o03 : x0 < x3) (o12 : x1 < x2) (o13 : x1 < x3) (o23 : x2 < x3) :
    MetFree l (⟨"java/util/Arrays", "binarySearch0", "([IIII)I"⟩ : MethodName) (head1 (Jvm.Cond.code (⟨"java/util/Arrays", "binarySearch0", "([IIII)I"⟩ : MethodName) jdk_65_method_59_code 8 (some .int) :: ws) ({ frames := 0, cells := 0, slots := 0, locals := 0 } : Room)) (fun a U => a = #[(.ref la), (.int 0), (.int 3), (.int x2)] ∧ Z.Warmed39 U.vm ∧ U.heap = h0) (fun _ _ _ _ _ => True) (fun _ U o U' => ∃ v L, o = .returned v ∧ Q7_0_3_2 Z la x2 kk x0 x1 x3 h0 n0 v U'.heap L ∧ FrameEnd U o U' L ({ frames := 0, cells := 0, slots := 0, locals := 0 } : Room).cells ({ frames := 0, cells := 0, slots := 0, locals := 0 } : Room).slots) := by
  refine MetFree.of_bodySF (plainFor_of_name pn1) hisR ?_
  intro p e s m args below meth c s₁ Bd hml0 hP hK
  obtain ⟨rfl, hZ, hh⟩ := hP
  have hx := Bd.exec
  have hby := Bd.bytes
  have hml : c.maxLocals = 8 := hml0
  have hown : s.vm.findClass "java/util/Arrays" = some m.cls := findClass_of_methodNamed Bd.named
  have hnm := (name_of_methodNamed Bd.named Bd.method).1
  have X0 : Stand p l e ({ frames := 0, cells := 0, slots := 0, locals := 0 } : Room) s m #[(.ref la), (.int 0), (.int 3), (.int x2)] below meth c s₁ [] 0 0 := Stand.of_body Bd
  have e0 : s₁.heap = h0 := by rw [← hh, Bd.state]; rfl
  have N0 := Fr.nil n0
  have pre0 : ∀ t, Steps p.tables e below (s₁.setTop (mkF m 0 #[.val (.ref la), .val (.int 0), .val (.int 3), .val (.int x2), .unset, .unset, .unset, .unset] [])) t → Steps p.tables e below (s₁.setTop (entryFrame m #[(.ref la), (.int 0), (.int 3), (.int x2)] 8)) t := fun t k => castTop (ef7_0_3_2 m la x2) k
  obtain ⟨cl101, Ar101, qk101, Sz101, Nz101, Hh101, Gg101⟩ := id V_la
  have hin101 : ¬ ((1 : Int32) < 0 ∨ cl101.slots.size ≤ ((1 : Int32)).toNatClampNeg) := inb_of Sz101 ⟨by decide, by decide⟩
  have hat101 : cl101.slots[((1 : Int32)).toNatClampNeg]? = some (.int x1) := Has.at Hh101 hin101 rfl
  obtain ⟨cl102, Ar102, qk102, Sz102, Nz102, Hh102, Gg102⟩ := id V_la
  have hin102 : ¬ ((2 : Int32) < 0 ∨ cl102.slots.size ≤ ((2 : Int32)).toNatClampNeg) := inb_of Sz102 ⟨by decide, by decide⟩
  have hat102 : cl102.slots[((2 : Int32)).toNatClampNeg]? = some (.int x2) := Has.at Hh102 hin102 rfl
  obtain ⟨fs, hr, hrun, hended, hW, hsame⟩ := X0.leave (v := some (.int 2)) (fun h => by rw [Bd.returns] at h; cases h)
  refine ⟨_, _, pre0 _ ?_, hrun, hended, _, _, rfl, ?_, ⟨_, rfl⟩, hW, hsame.mono (by decide) (by decide)⟩
  · show own_S p e below s₁ m 0 #[oR la, oI 0, oI 3, oI x2, oU, oU, oU, oU] [] _
    refine XS.iloadN X0.here hx rfl (hb hby d7_0) rfl ?_
    show own_S p e below s₁ m 1 #[oR la, oI 0, oI 3, oI x2, oU, oU, oU, oU] [(.int 0)] _
    refine XS.istore X0.here hx rfl (hb hby d7_1) rfl (l' := #[.val (.ref la), .val (.int 0), .val (.int 3), .val (.int x2), .val (.int 0), .unset, .unset, .unset]) rfl ?_
    show own_S p e below s₁ m 3 #[oR la, oI 0, oI 3, oI x2, oI 0, oU, oU, oU] [] _
    refine XS.iloadN X0.here hx rfl (hb hby d7_3) rfl ?_
    show own_S p e below s₁ m 4 #[oR la, oI 0, oI 3, oI x2, oI 0, oU, oU, oU] [(.int 3)] _
    refine XS.iconst X0.here hx rfl (hb hby d7_4) ?_
    show own_S p e below s₁ m 5 #[oR la, oI 0, oI 3, oI x2, oI 0, oU, oU, oU] [(.int 1), (.int 3)] _
    refine XS.isub X0.here hx rfl (hb hby d7_5) rfl ?_
    show own_S p e below s₁ m 6 #[oR la, oI 0, oI 3, oI x2, oI 0, oU, oU, oU] [(.int ((3 : Int32) - (1 : Int32)))] _
    refine reI (by decide : ((3 : Int32) - (1 : Int32)) = (2 : Int32)) ?_
    show own_S p e below s₁ m 6 #[oR la, oI 0, oI 3, oI x2, oI 0, oU, oU, oU] [(.int 2)] _
    refine XS.istore X0.here hx rfl (hb hby d7_6) rfl (l' := #[.val (.ref la), .val (.int 0), .val (.int 3), .val (.int x2), .val (.int 0), .val (.int 2), .unset, .unset]) rfl ?_
    show own_S p e below s₁ m 8 #[oR la, oI 0, oI 3, oI x2, oI 0, oI 2, oU, oU] [] _
    refine XS.iload X0.here hx rfl (hb hby d7_8) rfl ?_
    show own_S p e below s₁ m 10 #[oR la, oI 0, oI 3, oI x2, oI 0, oI 2, oU, oU] [(.int 0)] _
    refine XS.iload X0.here hx rfl (hb hby d7_10) rfl ?_
    show own_S p e below s₁ m 12 #[oR la, oI 0, oI 3, oI x2, oI 0, oI 2, oU, oU] [(.int 2), (.int 0)] _
    refine XS.icmpNo X0.here hx rfl (hb hby d7_12) rfl (flt (by decide : ¬ ((2 : Int32) < (0 : Int32)))).2.2.1 ?_
    show own_S p e below s₁ m 15 #[oR la, oI 0, oI 3, oI x2, oI 0, oI 2, oU, oU] [] _
    refine XS.iload X0.here hx rfl (hb hby d7_15) rfl ?_
    show own_S p e below s₁ m 17 #[oR la, oI 0, oI 3, oI x2, oI 0, oI 2, oU, oU] [(.int 0)] _
    refine XS.iload X0.here hx rfl (hb hby d7_17) rfl ?_
    show own_S p e below s₁ m 19 #[oR la, oI 0, oI 3, oI x2, oI 0, oI 2, oU, oU] [(.int 2), (.int 0)] _
    refine XS.iadd X0.here hx rfl (hb hby d7_19) rfl ?_
    show own_S p e below s₁ m 20 #[oR la, oI 0, oI 3, oI x2, oI 0, oI 2, oU, oU] [(.int ((0 : Int32) + (2 : Int32)))] _
    refine reI (by decide : ((0 : Int32) + (2 : Int32)) = (2 : Int32)) ?_
    show own_S p e below s₁ m 20 #[oR la, oI 0, oI 3, oI x2, oI 0, oI 2, oU, oU] [(.int 2)] _
    refine XS.iconst X0.here hx rfl (hb hby d7_20) ?_
    show own_S p e below s₁ m 21 #[oR la, oI 0, oI 3, oI x2, oI 0, oI 2, oU, oU] [(.int 1), (.int 2)] _
    refine XS.iushr X0.here hx rfl (hb hby d7_21) rfl ?_
    show own_S p e below s₁ m 22 #[oR la, oI 0, oI 3, oI x2, oI 0, oI 2, oU, oU] [(.int (((2 : Int32).toUInt32 >>> ((1 : Int32) &&& 31).toUInt32).toInt32))] _
    refine reI (by decide : (((2 : Int32).toUInt32 >>> ((1 : Int32) &&& 31).toUInt32).toInt32) = (1 : Int32)) ?_
    show own_S p e below s₁ m 22 #[oR la, oI 0, oI 3, oI x2, oI 0, oI 2, oU, oU] [(.int 1)] _
    refine XS.istore X0.here hx rfl (hb hby d7_22) rfl (l' := #[.val (.ref la), .val (.int 0), .val (.int 3), .val (.int x2), .val (.int 0), .val (.int 2), .val (.int 1), .unset]) rfl ?_
    show own_S p e below s₁ m 24 #[oR la, oI 0, oI 3, oI x2, oI 0, oI 2, oI 1, oU] [] _
    refine XS.aloadN X0.here hx rfl (hb hby d7_24) rfl rfl ?_
    show own_S p e below s₁ m 25 #[oR la, oI 0, oI 3, oI x2, oI 0, oI 2, oI 1, oU] [(.ref la)] _
    refine XS.iload X0.here hx rfl (hb hby d7_25) rfl ?_
    show own_S p e below s₁ m 27 #[oR la, oI 0, oI 3, oI x2, oI 0, oI 2, oI 1, oU] [(.int 1), (.ref la)] _
    refine X0.iaload hx (j := (1 : Int32)) (v := (.int x1)) (by rw [e0]; exact Ar101.1) (State.isArrayOf_alike hZ.alike Ar101.2.1) Ar101.2.2 hin101 hat101 (g := (mkF m 27 #[.val (.ref la), .val (.int 0), .val (.int 3), .val (.int x2), .val (.int 0), .val (.int 2), .val (.int 1), .unset] [(.int 1), (.ref la)])) rfl rfl (hb hby d7_27) _ ?_
    show own_S p e below s₁ m 28 #[oR la, oI 0, oI 3, oI x2, oI 0, oI 2, oI 1, oU] [(.int x1)] _
    refine XS.istore X0.here hx rfl (hb hby d7_28) rfl (l' := #[.val (.ref la), .val (.int 0), .val (.int 3), .val (.int x2), .val (.int 0), .val (.int 2), .val (.int 1), .val (.int x1)]) rfl ?_
    show own_S p e below s₁ m 30 #[oR la, oI 0, oI 3, oI x2, oI 0, oI 2, oI 1, oI x1] [] _
    refine XS.iload X0.here hx rfl (hb hby d7_30) rfl ?_
    show own_S p e below s₁ m 32 #[oR la, oI 0, oI 3, oI x2, oI 0, oI 2, oI 1, oI x1] [(.int x1)] _
    refine XS.iloadN X0.here hx rfl (hb hby d7_32) rfl ?_
    show own_S p e below s₁ m 33 #[oR la, oI 0, oI 3, oI x2, oI 0, oI 2, oI 1, oI x1] [(.int x2), (.int x1)] _
    refine XS.icmpNo X0.here hx rfl (hb hby d7_33) rfl (tlt (o12 : x1 < x2)).2.1 ?_
    show own_S p e below s₁ m 36 #[oR la, oI 0, oI 3, oI x2, oI 0, oI 2, oI 1, oI x1] [] _
    refine XS.iload X0.here hx rfl (hb hby d7_36) rfl ?_
    show own_S p e below s₁ m 38 #[oR la, oI 0, oI 3, oI x2, oI 0, oI 2, oI 1, oI x1] [(.int 1)] _
    refine XS.iconst X0.here hx rfl (hb hby d7_38) ?_
    show own_S p e below s₁ m 39 #[oR la, oI 0, oI 3, oI x2, oI 0, oI 2, oI 1, oI x1] [(.int 1), (.int 1)] _
    refine XS.iadd X0.here hx rfl (hb hby d7_39) rfl ?_
    show own_S p e below s₁ m 40 #[oR la, oI 0, oI 3, oI x2, oI 0, oI 2, oI 1, oI x1] [(.int ((1 : Int32) + (1 : Int32)))] _
    refine reI (by decide : ((1 : Int32) + (1 : Int32)) = (2 : Int32)) ?_
    show own_S p e below s₁ m 40 #[oR la, oI 0, oI 3, oI x2, oI 0, oI 2, oI 1, oI x1] [(.int 2)] _
    refine XS.istore X0.here hx rfl (hb hby d7_40) rfl (l' := #[.val (.ref la), .val (.int 0), .val (.int 3), .val (.int x2), .val (.int 2), .val (.int 2), .val (.int 1), .val (.int x1)]) rfl ?_
    show own_S p e below s₁ m 42 #[oR la, oI 0, oI 3, oI x2, oI 2, oI 2, oI 1, oI x1] [] _
    refine XS.goto X0.here hx rfl (pc0 := 42) (pc' := 63) rfl (hb hby d7_42) (by decide) (by decide) ?_
    show own_S p e below s₁ m 63 #[oR la, oI 0, oI 3, oI x2, oI 2, oI 2, oI 1, oI x1] [] _
    refine XS.goto X0.here hx rfl (pc0 := 63) (pc' := 8) rfl (hb hby d7_63) (by decide) (by decide) ?_
    show own_S p e below s₁ m 8 #[oR la, oI 0, oI 3, oI x2, oI 2, oI 2, oI 1, oI x1] [] _
    refine XS.iload X0.here hx rfl (hb hby d7_8) rfl ?_
    show own_S p e below s₁ m 10 #[oR la, oI 0, oI 3, oI x2, oI 2, oI 2, oI 1, oI x1] [(.int 2)] _
    refine XS.iload X0.here hx rfl (hb hby d7_10) rfl ?_
    show own_S p e below s₁ m 12 #[oR la, oI 0, oI 3, oI x2, oI 2, oI 2, oI 1, oI x1] [(.int 2), (.int 2)] _
    refine XS.icmpNo X0.here hx rfl (hb hby d7_12) rfl (flt (by decide : ¬ ((2 : Int32) < (2 : Int32)))).2.2.1 ?_
    show own_S p e below s₁ m 15 #[oR la, oI 0, oI 3, oI x2, oI 2, oI 2, oI 1, oI x1] [] _
    refine XS.iload X0.here hx rfl (hb hby d7_15) rfl ?_
    show own_S p e below s₁ m 17 #[oR la, oI 0, oI 3, oI x2, oI 2, oI 2, oI 1, oI x1] [(.int 2)] _
    refine XS.iload X0.here hx rfl (hb hby d7_17) rfl ?_
    show own_S p e below s₁ m 19 #[oR la, oI 0, oI 3, oI x2, oI 2, oI 2, oI 1, oI x1] [(.int 2), (.int 2)] _
    refine XS.iadd X0.here hx rfl (hb hby d7_19) rfl ?_
    show own_S p e below s₁ m 20 #[oR la, oI 0, oI 3, oI x2, oI 2, oI 2, oI 1, oI x1] [(.int ((2 : Int32) + (2 : Int32)))] _
    refine reI (by decide : ((2 : Int32) + (2 : Int32)) = (4 : Int32)) ?_
    show own_S p e below s₁ m 20 #[oR la, oI 0, oI 3, oI x2, oI 2, oI 2, oI 1, oI x1] [(.int 4)] _
    refine XS.iconst X0.here hx rfl (hb hby d7_20) ?_
    show own_S p e below s₁ m 21 #[oR la, oI 0, oI 3, oI x2, oI 2, oI 2, oI 1, oI x1] [(.int 1), (.int 4)] _
    refine XS.iushr X0.here hx rfl (hb hby d7_21) rfl ?_
    show own_S p e below s₁ m 22 #[oR la, oI 0, oI 3, oI x2, oI 2, oI 2, oI 1, oI x1] [(.int (((4 : Int32).toUInt32 >>> ((1 : Int32) &&& 31).toUInt32).toInt32))] _
    refine reI (by decide : (((4 : Int32).toUInt32 >>> ((1 : Int32) &&& 31).toUInt32).toInt32) = (2 : Int32)) ?_
    show own_S p e below s₁ m 22 #[oR la, oI 0, oI 3, oI x2, oI 2, oI 2, oI 1, oI x1] [(.int 2)] _
    refine XS.istore X0.here hx rfl (hb hby d7_22) rfl (l' := #[.val (.ref la), .val (.int 0), .val (.int 3), .val (.int x2), .val (.int 2), .val (.int 2), .val (.int 2), .val (.int x1)]) rfl ?_
    show own_S p e below s₁ m 24 #[oR la, oI 0, oI 3, oI x2, oI 2, oI 2, oI 2, oI x1] [] _
    refine XS.aloadN X0.here hx rfl (hb hby d7_24) rfl rfl ?_
    show own_S p e below s₁ m 25 #[oR la, oI 0, oI 3, oI x2, oI 2, oI 2, oI 2, oI x1] [(.ref la)] _
    refine XS.iload X0.here hx rfl (hb hby d7_25) rfl ?_
    show own_S p e below s₁ m 27 #[oR la, oI 0, oI 3, oI x2, oI 2, oI 2, oI 2, oI x1] [(.int 2), (.ref la)] _
    refine X0.iaload hx (j := (2 : Int32)) (v := (.int x2)) (by rw [e0]; exact Ar102.1) (State.isArrayOf_alike hZ.alike Ar102.2.1) Ar102.2.2 hin102 hat102 (g := (mkF m 27 #[.val (.ref la), .val (.int 0), .val (.int 3), .val (.int x2), .val (.int 2), .val (.int 2), .val (.int 2), .val (.int x1)] [(.int 2), (.ref la)])) rfl rfl (hb hby d7_27) _ ?_
    show own_S p e below s₁ m 28 #[oR la, oI 0, oI 3, oI x2, oI 2, oI 2, oI 2, oI x1] [(.int x2)] _
    refine XS.istore X0.here hx rfl (hb hby d7_28) rfl (l' := #[.val (.ref la), .val (.int 0), .val (.int 3), .val (.int x2), .val (.int 2), .val (.int 2), .val (.int 2), .val (.int x2)]) rfl ?_
    show own_S p e below s₁ m 30 #[oR la, oI 0, oI 3, oI x2, oI 2, oI 2, oI 2, oI x2] [] _
    refine XS.iload X0.here hx rfl (hb hby d7_30) rfl ?_
    show own_S p e below s₁ m 32 #[oR la, oI 0, oI 3, oI x2, oI 2, oI 2, oI 2, oI x2] [(.int x2)] _
    refine XS.iloadN X0.here hx rfl (hb hby d7_32) rfl ?_
    show own_S p e below s₁ m 33 #[oR la, oI 0, oI 3, oI x2, oI 2, oI 2, oI 2, oI x2] [(.int x2), (.int x2)] _
    refine XS.icmpYes X0.here hx rfl (pc0 := 33) (pc' := 45) rfl (hb hby d7_33) rfl (flt (own_irr : ¬ (x2 < x2))).2.1 (by decide) (by decide) ?_
    show own_S p e below s₁ m 45 #[oR la, oI 0, oI 3, oI x2, oI 2, oI 2, oI 2, oI x2] [] _
    refine XS.iload X0.here hx rfl (hb hby d7_45) rfl ?_
    show own_S p e below s₁ m 47 #[oR la, oI 0, oI 3, oI x2, oI 2, oI 2, oI 2, oI x2] [(.int x2)] _
    refine XS.iloadN X0.here hx rfl (hb hby d7_47) rfl ?_
    show own_S p e below s₁ m 48 #[oR la, oI 0, oI 3, oI x2, oI 2, oI 2, oI 2, oI x2] [(.int x2), (.int x2)] _
    refine XS.icmpYes X0.here hx rfl (pc0 := 48) (pc' := 60) rfl (hb hby d7_48) rfl (flt (own_irr : ¬ (x2 < x2))).2.2.2 (by decide) (by decide) ?_
    show own_S p e below s₁ m 60 #[oR la, oI 0, oI 3, oI x2, oI 2, oI 2, oI 2, oI x2] [] _
    refine XS.iload X0.here hx rfl (hb hby d7_60) rfl ?_
    show own_S p e below s₁ m 62 #[oR la, oI 0, oI 3, oI x2, oI 2, oI 2, oI 2, oI x2] [(.int 2)] _
    exact retOut X0 hx Bd.returns rfl (Or.inl ⟨rfl, Or.inl rfl, _, rfl⟩) (hb hby d7_62) hr
  · show Q7_0_3_2 Z la x2 kk x0 x1 x3 h0 n0 _ s₁.heap _
    rw [e0]
    exact ⟨rfl, N0, rfl⟩
theorem ef7_0_4_0 (m : MethodId) (la : Addr) (x0 : Int32) : entryFrame m #[(.ref la), (.int 0), (.int 4), (.int x0)] 8 = mkF m 0 #[.val (.ref la), .val (.int 0), .val (.int 4), .val (.int x0), .unset, .unset, .unset, .unset] [] := by first | (simp [entryFrame, mkF, argsToLocals, Value.category]; done) | rfl
def Q7_0_4_0 (Z : State) (la : Addr) (x0 : Int32) (kk : ClassId) (x1 : Int32) (x2 : Int32) (x3 : Int32) (h0 : Heap) (n0 : Nat) (v : Option Value) (h : Heap) (L : List Loc) : Prop := v = some (.int 0) ∧ Fr n0 L ∧ (h = h0)
set_option maxRecDepth 65536 in
set_option maxHeartbeats 40000000 in
theorem rm7_0_4_0 (l : Launch) (Z : State) (a0 : Array Value) (hw : ∀ d ∈ tables_1, d.before a0 Z = true) (ws : List Jvm.Cond) (la : Addr) (x0 : Int32) (kk : ClassId) (x1 : Int32) (x2 : Int32) (x3 : Int32) (h0 : Heap) (n0 : Nat) (Z0 : n0 ≤ h0.size) (V_la : Arv Z h0 la kk .int (4 : Int32) [(.int x0), (.int x1), (.int x2), (.int x3)] (.int 0)) (o01 : x0 < x1) (o02 : x0 < x2) (o03 : x0 < x3) (o12 : x1 < x2) (o13 : x1 < x3) (o23 : x2 < x3) :
    MetFree l (⟨"java/util/Arrays", "binarySearch0", "([IIII)I"⟩ : MethodName) (head1 (Jvm.Cond.code (⟨"java/util/Arrays", "binarySearch0", "([IIII)I"⟩ : MethodName) jdk_65_method_59_code 8 (some .int) :: ws) ({ frames := 0, cells := 0, slots := 0, locals := 0 } : Room)) (fun a U => a = #[(.ref la), (.int 0), (.int 4), (.int x0)] ∧ Z.Warmed39 U.vm ∧ U.heap = h0) (fun _ _ _ _ _ => True) (fun _ U o U' => ∃ v L, o = .returned v ∧ Q7_0_4_0 Z la x0 kk x1 x2 x3 h0 n0 v U'.heap L ∧ FrameEnd U o U' L ({ frames := 0, cells := 0, slots := 0, locals := 0 } : Room).cells ({ frames := 0, cells := 0, slots := 0, locals := 0 } : Room).slots) := by
  refine MetFree.of_bodySF (plainFor_of_name pn1) hisR ?_
  intro p e s m args below meth c s₁ Bd hml0 hP hK
  obtain ⟨rfl, hZ, hh⟩ := hP
  have hx := Bd.exec
  have hby := Bd.bytes
  have hml : c.maxLocals = 8 := hml0
  have hown : s.vm.findClass "java/util/Arrays" = some m.cls := findClass_of_methodNamed Bd.named
  have hnm := (name_of_methodNamed Bd.named Bd.method).1
  have X0 : Stand p l e ({ frames := 0, cells := 0, slots := 0, locals := 0 } : Room) s m #[(.ref la), (.int 0), (.int 4), (.int x0)] below meth c s₁ [] 0 0 := Stand.of_body Bd
  have e0 : s₁.heap = h0 := by rw [← hh, Bd.state]; rfl
  have N0 := Fr.nil n0
  have pre0 : ∀ t, Steps p.tables e below (s₁.setTop (mkF m 0 #[.val (.ref la), .val (.int 0), .val (.int 4), .val (.int x0), .unset, .unset, .unset, .unset] [])) t → Steps p.tables e below (s₁.setTop (entryFrame m #[(.ref la), (.int 0), (.int 4), (.int x0)] 8)) t := fun t k => castTop (ef7_0_4_0 m la x0) k
  obtain ⟨cl101, Ar101, qk101, Sz101, Nz101, Hh101, Gg101⟩ := id V_la
  have hin101 : ¬ ((1 : Int32) < 0 ∨ cl101.slots.size ≤ ((1 : Int32)).toNatClampNeg) := inb_of Sz101 ⟨by decide, by decide⟩
  have hat101 : cl101.slots[((1 : Int32)).toNatClampNeg]? = some (.int x1) := Has.at Hh101 hin101 rfl
  obtain ⟨cl102, Ar102, qk102, Sz102, Nz102, Hh102, Gg102⟩ := id V_la
  have hin102 : ¬ ((0 : Int32) < 0 ∨ cl102.slots.size ≤ ((0 : Int32)).toNatClampNeg) := inb_of Sz102 ⟨by decide, by decide⟩
  have hat102 : cl102.slots[((0 : Int32)).toNatClampNeg]? = some (.int x0) := Has.at Hh102 hin102 rfl
  obtain ⟨fs, hr, hrun, hended, hW, hsame⟩ := X0.leave (v := some (.int 0)) (fun h => by rw [Bd.returns] at h; cases h)
  refine ⟨_, _, pre0 _ ?_, hrun, hended, _, _, rfl, ?_, ⟨_, rfl⟩, hW, hsame.mono (by decide) (by decide)⟩
  · show own_S p e below s₁ m 0 #[oR la, oI 0, oI 4, oI x0, oU, oU, oU, oU] [] _
    refine XS.iloadN X0.here hx rfl (hb hby d7_0) rfl ?_
    show own_S p e below s₁ m 1 #[oR la, oI 0, oI 4, oI x0, oU, oU, oU, oU] [(.int 0)] _
    refine XS.istore X0.here hx rfl (hb hby d7_1) rfl (l' := #[.val (.ref la), .val (.int 0), .val (.int 4), .val (.int x0), .val (.int 0), .unset, .unset, .unset]) rfl ?_
    show own_S p e below s₁ m 3 #[oR la, oI 0, oI 4, oI x0, oI 0, oU, oU, oU] [] _
    refine XS.iloadN X0.here hx rfl (hb hby d7_3) rfl ?_
    show own_S p e below s₁ m 4 #[oR la, oI 0, oI 4, oI x0, oI 0, oU, oU, oU] [(.int 4)] _
    refine XS.iconst X0.here hx rfl (hb hby d7_4) ?_
    show own_S p e below s₁ m 5 #[oR la, oI 0, oI 4, oI x0, oI 0, oU, oU, oU] [(.int 1), (.int 4)] _
    refine XS.isub X0.here hx rfl (hb hby d7_5) rfl ?_
    show own_S p e below s₁ m 6 #[oR la, oI 0, oI 4, oI x0, oI 0, oU, oU, oU] [(.int ((4 : Int32) - (1 : Int32)))] _
    refine reI (by decide : ((4 : Int32) - (1 : Int32)) = (3 : Int32)) ?_
    show own_S p e below s₁ m 6 #[oR la, oI 0, oI 4, oI x0, oI 0, oU, oU, oU] [(.int 3)] _
    refine XS.istore X0.here hx rfl (hb hby d7_6) rfl (l' := #[.val (.ref la), .val (.int 0), .val (.int 4), .val (.int x0), .val (.int 0), .val (.int 3), .unset, .unset]) rfl ?_
    show own_S p e below s₁ m 8 #[oR la, oI 0, oI 4, oI x0, oI 0, oI 3, oU, oU] [] _
    refine XS.iload X0.here hx rfl (hb hby d7_8) rfl ?_
    show own_S p e below s₁ m 10 #[oR la, oI 0, oI 4, oI x0, oI 0, oI 3, oU, oU] [(.int 0)] _
    refine XS.iload X0.here hx rfl (hb hby d7_10) rfl ?_
    show own_S p e below s₁ m 12 #[oR la, oI 0, oI 4, oI x0, oI 0, oI 3, oU, oU] [(.int 3), (.int 0)] _
    refine XS.icmpNo X0.here hx rfl (hb hby d7_12) rfl (flt (by decide : ¬ ((3 : Int32) < (0 : Int32)))).2.2.1 ?_
    show own_S p e below s₁ m 15 #[oR la, oI 0, oI 4, oI x0, oI 0, oI 3, oU, oU] [] _
    refine XS.iload X0.here hx rfl (hb hby d7_15) rfl ?_
    show own_S p e below s₁ m 17 #[oR la, oI 0, oI 4, oI x0, oI 0, oI 3, oU, oU] [(.int 0)] _
    refine XS.iload X0.here hx rfl (hb hby d7_17) rfl ?_
    show own_S p e below s₁ m 19 #[oR la, oI 0, oI 4, oI x0, oI 0, oI 3, oU, oU] [(.int 3), (.int 0)] _
    refine XS.iadd X0.here hx rfl (hb hby d7_19) rfl ?_
    show own_S p e below s₁ m 20 #[oR la, oI 0, oI 4, oI x0, oI 0, oI 3, oU, oU] [(.int ((0 : Int32) + (3 : Int32)))] _
    refine reI (by decide : ((0 : Int32) + (3 : Int32)) = (3 : Int32)) ?_
    show own_S p e below s₁ m 20 #[oR la, oI 0, oI 4, oI x0, oI 0, oI 3, oU, oU] [(.int 3)] _
    refine XS.iconst X0.here hx rfl (hb hby d7_20) ?_
    show own_S p e below s₁ m 21 #[oR la, oI 0, oI 4, oI x0, oI 0, oI 3, oU, oU] [(.int 1), (.int 3)] _
    refine XS.iushr X0.here hx rfl (hb hby d7_21) rfl ?_
    show own_S p e below s₁ m 22 #[oR la, oI 0, oI 4, oI x0, oI 0, oI 3, oU, oU] [(.int (((3 : Int32).toUInt32 >>> ((1 : Int32) &&& 31).toUInt32).toInt32))] _
    refine reI (by decide : (((3 : Int32).toUInt32 >>> ((1 : Int32) &&& 31).toUInt32).toInt32) = (1 : Int32)) ?_
    show own_S p e below s₁ m 22 #[oR la, oI 0, oI 4, oI x0, oI 0, oI 3, oU, oU] [(.int 1)] _
    refine XS.istore X0.here hx rfl (hb hby d7_22) rfl (l' := #[.val (.ref la), .val (.int 0), .val (.int 4), .val (.int x0), .val (.int 0), .val (.int 3), .val (.int 1), .unset]) rfl ?_
    show own_S p e below s₁ m 24 #[oR la, oI 0, oI 4, oI x0, oI 0, oI 3, oI 1, oU] [] _
    refine XS.aloadN X0.here hx rfl (hb hby d7_24) rfl rfl ?_
    show own_S p e below s₁ m 25 #[oR la, oI 0, oI 4, oI x0, oI 0, oI 3, oI 1, oU] [(.ref la)] _
    refine XS.iload X0.here hx rfl (hb hby d7_25) rfl ?_
    show own_S p e below s₁ m 27 #[oR la, oI 0, oI 4, oI x0, oI 0, oI 3, oI 1, oU] [(.int 1), (.ref la)] _
    refine X0.iaload hx (j := (1 : Int32)) (v := (.int x1)) (by rw [e0]; exact Ar101.1) (State.isArrayOf_alike hZ.alike Ar101.2.1) Ar101.2.2 hin101 hat101 (g := (mkF m 27 #[.val (.ref la), .val (.int 0), .val (.int 4), .val (.int x0), .val (.int 0), .val (.int 3), .val (.int 1), .unset] [(.int 1), (.ref la)])) rfl rfl (hb hby d7_27) _ ?_
    show own_S p e below s₁ m 28 #[oR la, oI 0, oI 4, oI x0, oI 0, oI 3, oI 1, oU] [(.int x1)] _
    refine XS.istore X0.here hx rfl (hb hby d7_28) rfl (l' := #[.val (.ref la), .val (.int 0), .val (.int 4), .val (.int x0), .val (.int 0), .val (.int 3), .val (.int 1), .val (.int x1)]) rfl ?_
    show own_S p e below s₁ m 30 #[oR la, oI 0, oI 4, oI x0, oI 0, oI 3, oI 1, oI x1] [] _
    refine XS.iload X0.here hx rfl (hb hby d7_30) rfl ?_
    show own_S p e below s₁ m 32 #[oR la, oI 0, oI 4, oI x0, oI 0, oI 3, oI 1, oI x1] [(.int x1)] _
    refine XS.iloadN X0.here hx rfl (hb hby d7_32) rfl ?_
    show own_S p e below s₁ m 33 #[oR la, oI 0, oI 4, oI x0, oI 0, oI 3, oI 1, oI x1] [(.int x0), (.int x1)] _
    refine XS.icmpYes X0.here hx rfl (pc0 := 33) (pc' := 45) rfl (hb hby d7_33) rfl (flt (own_asm o01 : ¬ (x1 < x0))).2.1 (by decide) (by decide) ?_
    show own_S p e below s₁ m 45 #[oR la, oI 0, oI 4, oI x0, oI 0, oI 3, oI 1, oI x1] [] _
    refine XS.iload X0.here hx rfl (hb hby d7_45) rfl ?_
    show own_S p e below s₁ m 47 #[oR la, oI 0, oI 4, oI x0, oI 0, oI 3, oI 1, oI x1] [(.int x1)] _
    refine XS.iloadN X0.here hx rfl (hb hby d7_47) rfl ?_
    show own_S p e below s₁ m 48 #[oR la, oI 0, oI 4, oI x0, oI 0, oI 3, oI 1, oI x1] [(.int x0), (.int x1)] _
    refine XS.icmpNo X0.here hx rfl (hb hby d7_48) rfl (tlt (o01 : x0 < x1)).2.2.2 ?_
    show own_S p e below s₁ m 51 #[oR la, oI 0, oI 4, oI x0, oI 0, oI 3, oI 1, oI x1] [] _
    refine XS.iload X0.here hx rfl (hb hby d7_51) rfl ?_
    show own_S p e below s₁ m 53 #[oR la, oI 0, oI 4, oI x0, oI 0, oI 3, oI 1, oI x1] [(.int 1)] _
    refine XS.iconst X0.here hx rfl (hb hby d7_53) ?_
    show own_S p e below s₁ m 54 #[oR la, oI 0, oI 4, oI x0, oI 0, oI 3, oI 1, oI x1] [(.int 1), (.int 1)] _
    refine XS.isub X0.here hx rfl (hb hby d7_54) rfl ?_
    show own_S p e below s₁ m 55 #[oR la, oI 0, oI 4, oI x0, oI 0, oI 3, oI 1, oI x1] [(.int ((1 : Int32) - (1 : Int32)))] _
    refine reI (by decide : ((1 : Int32) - (1 : Int32)) = (0 : Int32)) ?_
    show own_S p e below s₁ m 55 #[oR la, oI 0, oI 4, oI x0, oI 0, oI 3, oI 1, oI x1] [(.int 0)] _
    refine XS.istore X0.here hx rfl (hb hby d7_55) rfl (l' := #[.val (.ref la), .val (.int 0), .val (.int 4), .val (.int x0), .val (.int 0), .val (.int 0), .val (.int 1), .val (.int x1)]) rfl ?_
    show own_S p e below s₁ m 57 #[oR la, oI 0, oI 4, oI x0, oI 0, oI 0, oI 1, oI x1] [] _
    refine XS.goto X0.here hx rfl (pc0 := 57) (pc' := 63) rfl (hb hby d7_57) (by decide) (by decide) ?_
    show own_S p e below s₁ m 63 #[oR la, oI 0, oI 4, oI x0, oI 0, oI 0, oI 1, oI x1] [] _
    refine XS.goto X0.here hx rfl (pc0 := 63) (pc' := 8) rfl (hb hby d7_63) (by decide) (by decide) ?_
    show own_S p e below s₁ m 8 #[oR la, oI 0, oI 4, oI x0, oI 0, oI 0, oI 1, oI x1] [] _
    refine XS.iload X0.here hx rfl (hb hby d7_8) rfl ?_
    show own_S p e below s₁ m 10 #[oR la, oI 0, oI 4, oI x0, oI 0, oI 0, oI 1, oI x1] [(.int 0)] _
    refine XS.iload X0.here hx rfl (hb hby d7_10) rfl ?_
    show own_S p e below s₁ m 12 #[oR la, oI 0, oI 4, oI x0, oI 0, oI 0, oI 1, oI x1] [(.int 0), (.int 0)] _
    refine XS.icmpNo X0.here hx rfl (hb hby d7_12) rfl (flt (by decide : ¬ ((0 : Int32) < (0 : Int32)))).2.2.1 ?_
    show own_S p e below s₁ m 15 #[oR la, oI 0, oI 4, oI x0, oI 0, oI 0, oI 1, oI x1] [] _
    refine XS.iload X0.here hx rfl (hb hby d7_15) rfl ?_
    show own_S p e below s₁ m 17 #[oR la, oI 0, oI 4, oI x0, oI 0, oI 0, oI 1, oI x1] [(.int 0)] _
    refine XS.iload X0.here hx rfl (hb hby d7_17) rfl ?_
    show own_S p e below s₁ m 19 #[oR la, oI 0, oI 4, oI x0, oI 0, oI 0, oI 1, oI x1] [(.int 0), (.int 0)] _
    refine XS.iadd X0.here hx rfl (hb hby d7_19) rfl ?_
    show own_S p e below s₁ m 20 #[oR la, oI 0, oI 4, oI x0, oI 0, oI 0, oI 1, oI x1] [(.int ((0 : Int32) + (0 : Int32)))] _
    refine reI (by decide : ((0 : Int32) + (0 : Int32)) = (0 : Int32)) ?_
    show own_S p e below s₁ m 20 #[oR la, oI 0, oI 4, oI x0, oI 0, oI 0, oI 1, oI x1] [(.int 0)] _
    refine XS.iconst X0.here hx rfl (hb hby d7_20) ?_
    show own_S p e below s₁ m 21 #[oR la, oI 0, oI 4, oI x0, oI 0, oI 0, oI 1, oI x1] [(.int 1), (.int 0)] _
    refine XS.iushr X0.here hx rfl (hb hby d7_21) rfl ?_
    show own_S p e below s₁ m 22 #[oR la, oI 0, oI 4, oI x0, oI 0, oI 0, oI 1, oI x1] [(.int (((0 : Int32).toUInt32 >>> ((1 : Int32) &&& 31).toUInt32).toInt32))] _
    refine reI (by decide : (((0 : Int32).toUInt32 >>> ((1 : Int32) &&& 31).toUInt32).toInt32) = (0 : Int32)) ?_
    show own_S p e below s₁ m 22 #[oR la, oI 0, oI 4, oI x0, oI 0, oI 0, oI 1, oI x1] [(.int 0)] _
    refine XS.istore X0.here hx rfl (hb hby d7_22) rfl (l' := #[.val (.ref la), .val (.int 0), .val (.int 4), .val (.int x0), .val (.int 0), .val (.int 0), .val (.int 0), .val (.int x1)]) rfl ?_
    show own_S p e below s₁ m 24 #[oR la, oI 0, oI 4, oI x0, oI 0, oI 0, oI 0, oI x1] [] _
    refine XS.aloadN X0.here hx rfl (hb hby d7_24) rfl rfl ?_
    show own_S p e below s₁ m 25 #[oR la, oI 0, oI 4, oI x0, oI 0, oI 0, oI 0, oI x1] [(.ref la)] _
    refine XS.iload X0.here hx rfl (hb hby d7_25) rfl ?_
    show own_S p e below s₁ m 27 #[oR la, oI 0, oI 4, oI x0, oI 0, oI 0, oI 0, oI x1] [(.int 0), (.ref la)] _
    refine X0.iaload hx (j := (0 : Int32)) (v := (.int x0)) (by rw [e0]; exact Ar102.1) (State.isArrayOf_alike hZ.alike Ar102.2.1) Ar102.2.2 hin102 hat102 (g := (mkF m 27 #[.val (.ref la), .val (.int 0), .val (.int 4), .val (.int x0), .val (.int 0), .val (.int 0), .val (.int 0), .val (.int x1)] [(.int 0), (.ref la)])) rfl rfl (hb hby d7_27) _ ?_
    show own_S p e below s₁ m 28 #[oR la, oI 0, oI 4, oI x0, oI 0, oI 0, oI 0, oI x1] [(.int x0)] _
    refine XS.istore X0.here hx rfl (hb hby d7_28) rfl (l' := #[.val (.ref la), .val (.int 0), .val (.int 4), .val (.int x0), .val (.int 0), .val (.int 0), .val (.int 0), .val (.int x0)]) rfl ?_
    show own_S p e below s₁ m 30 #[oR la, oI 0, oI 4, oI x0, oI 0, oI 0, oI 0, oI x0] [] _
    refine XS.iload X0.here hx rfl (hb hby d7_30) rfl ?_
    show own_S p e below s₁ m 32 #[oR la, oI 0, oI 4, oI x0, oI 0, oI 0, oI 0, oI x0] [(.int x0)] _
    refine XS.iloadN X0.here hx rfl (hb hby d7_32) rfl ?_
    show own_S p e below s₁ m 33 #[oR la, oI 0, oI 4, oI x0, oI 0, oI 0, oI 0, oI x0] [(.int x0), (.int x0)] _
    refine XS.icmpYes X0.here hx rfl (pc0 := 33) (pc' := 45) rfl (hb hby d7_33) rfl (flt (own_irr : ¬ (x0 < x0))).2.1 (by decide) (by decide) ?_
    show own_S p e below s₁ m 45 #[oR la, oI 0, oI 4, oI x0, oI 0, oI 0, oI 0, oI x0] [] _
    refine XS.iload X0.here hx rfl (hb hby d7_45) rfl ?_
    show own_S p e below s₁ m 47 #[oR la, oI 0, oI 4, oI x0, oI 0, oI 0, oI 0, oI x0] [(.int x0)] _
    refine XS.iloadN X0.here hx rfl (hb hby d7_47) rfl ?_
    show own_S p e below s₁ m 48 #[oR la, oI 0, oI 4, oI x0, oI 0, oI 0, oI 0, oI x0] [(.int x0), (.int x0)] _
    refine XS.icmpYes X0.here hx rfl (pc0 := 48) (pc' := 60) rfl (hb hby d7_48) rfl (flt (own_irr : ¬ (x0 < x0))).2.2.2 (by decide) (by decide) ?_
    show own_S p e below s₁ m 60 #[oR la, oI 0, oI 4, oI x0, oI 0, oI 0, oI 0, oI x0] [] _
    refine XS.iload X0.here hx rfl (hb hby d7_60) rfl ?_
    show own_S p e below s₁ m 62 #[oR la, oI 0, oI 4, oI x0, oI 0, oI 0, oI 0, oI x0] [(.int 0)] _
    exact retOut X0 hx Bd.returns rfl (Or.inl ⟨rfl, Or.inl rfl, _, rfl⟩) (hb hby d7_62) hr
  · show Q7_0_4_0 Z la x0 kk x1 x2 x3 h0 n0 _ s₁.heap _
    rw [e0]
    exact ⟨rfl, N0, rfl⟩
theorem ef7_0_4_1 (m : MethodId) (la : Addr) (x1 : Int32) : entryFrame m #[(.ref la), (.int 0), (.int 4), (.int x1)] 8 = mkF m 0 #[.val (.ref la), .val (.int 0), .val (.int 4), .val (.int x1), .unset, .unset, .unset, .unset] [] := by first | (simp [entryFrame, mkF, argsToLocals, Value.category]; done) | rfl
def Q7_0_4_1 (Z : State) (la : Addr) (x1 : Int32) (kk : ClassId) (x0 : Int32) (x2 : Int32) (x3 : Int32) (h0 : Heap) (n0 : Nat) (v : Option Value) (h : Heap) (L : List Loc) : Prop := v = some (.int 1) ∧ Fr n0 L ∧ (h = h0)
set_option maxRecDepth 65536 in
set_option maxHeartbeats 40000000 in
theorem rm7_0_4_1 (l : Launch) (Z : State) (a0 : Array Value) (hw : ∀ d ∈ tables_1, d.before a0 Z = true) (ws : List Jvm.Cond) (la : Addr) (x1 : Int32) (kk : ClassId) (x0 : Int32) (x2 : Int32) (x3 : Int32) (h0 : Heap) (n0 : Nat) (Z0 : n0 ≤ h0.size) (V_la : Arv Z h0 la kk .int (4 : Int32) [(.int x0), (.int x1), (.int x2), (.int x3)] (.int 0)) (o01 : x0 < x1) (o02 : x0 < x2) (o03 : x0 < x3) (o12 : x1 < x2) (o13 : x1 < x3) (o23 : x2 < x3) :
    MetFree l (⟨"java/util/Arrays", "binarySearch0", "([IIII)I"⟩ : MethodName) (head1 (Jvm.Cond.code (⟨"java/util/Arrays", "binarySearch0", "([IIII)I"⟩ : MethodName) jdk_65_method_59_code 8 (some .int) :: ws) ({ frames := 0, cells := 0, slots := 0, locals := 0 } : Room)) (fun a U => a = #[(.ref la), (.int 0), (.int 4), (.int x1)] ∧ Z.Warmed39 U.vm ∧ U.heap = h0) (fun _ _ _ _ _ => True) (fun _ U o U' => ∃ v L, o = .returned v ∧ Q7_0_4_1 Z la x1 kk x0 x2 x3 h0 n0 v U'.heap L ∧ FrameEnd U o U' L ({ frames := 0, cells := 0, slots := 0, locals := 0 } : Room).cells ({ frames := 0, cells := 0, slots := 0, locals := 0 } : Room).slots) := by
  refine MetFree.of_bodySF (plainFor_of_name pn1) hisR ?_
  intro p e s m args below meth c s₁ Bd hml0 hP hK
  obtain ⟨rfl, hZ, hh⟩ := hP
  have hx := Bd.exec
  have hby := Bd.bytes
  have hml : c.maxLocals = 8 := hml0
  have hown : s.vm.findClass "java/util/Arrays" = some m.cls := findClass_of_methodNamed Bd.named
  have hnm := (name_of_methodNamed Bd.named Bd.method).1
  have X0 : Stand p l e ({ frames := 0, cells := 0, slots := 0, locals := 0 } : Room) s m #[(.ref la), (.int 0), (.int 4), (.int x1)] below meth c s₁ [] 0 0 := Stand.of_body Bd
  have e0 : s₁.heap = h0 := by rw [← hh, Bd.state]; rfl
  have N0 := Fr.nil n0
  have pre0 : ∀ t, Steps p.tables e below (s₁.setTop (mkF m 0 #[.val (.ref la), .val (.int 0), .val (.int 4), .val (.int x1), .unset, .unset, .unset, .unset] [])) t → Steps p.tables e below (s₁.setTop (entryFrame m #[(.ref la), (.int 0), (.int 4), (.int x1)] 8)) t := fun t k => castTop (ef7_0_4_1 m la x1) k
  obtain ⟨cl101, Ar101, qk101, Sz101, Nz101, Hh101, Gg101⟩ := id V_la
  have hin101 : ¬ ((1 : Int32) < 0 ∨ cl101.slots.size ≤ ((1 : Int32)).toNatClampNeg) := inb_of Sz101 ⟨by decide, by decide⟩
  have hat101 : cl101.slots[((1 : Int32)).toNatClampNeg]? = some (.int x1) := Has.at Hh101 hin101 rfl
  obtain ⟨fs, hr, hrun, hended, hW, hsame⟩ := X0.leave (v := some (.int 1)) (fun h => by rw [Bd.returns] at h; cases h)
  refine ⟨_, _, pre0 _ ?_, hrun, hended, _, _, rfl, ?_, ⟨_, rfl⟩, hW, hsame.mono (by decide) (by decide)⟩
  · show own_S p e below s₁ m 0 #[oR la, oI 0, oI 4, oI x1, oU, oU, oU, oU] [] _
    refine XS.iloadN X0.here hx rfl (hb hby d7_0) rfl ?_
    show own_S p e below s₁ m 1 #[oR la, oI 0, oI 4, oI x1, oU, oU, oU, oU] [(.int 0)] _
    refine XS.istore X0.here hx rfl (hb hby d7_1) rfl (l' := #[.val (.ref la), .val (.int 0), .val (.int 4), .val (.int x1), .val (.int 0), .unset, .unset, .unset]) rfl ?_
    show own_S p e below s₁ m 3 #[oR la, oI 0, oI 4, oI x1, oI 0, oU, oU, oU] [] _
    refine XS.iloadN X0.here hx rfl (hb hby d7_3) rfl ?_
    show own_S p e below s₁ m 4 #[oR la, oI 0, oI 4, oI x1, oI 0, oU, oU, oU] [(.int 4)] _
    refine XS.iconst X0.here hx rfl (hb hby d7_4) ?_
    show own_S p e below s₁ m 5 #[oR la, oI 0, oI 4, oI x1, oI 0, oU, oU, oU] [(.int 1), (.int 4)] _
    refine XS.isub X0.here hx rfl (hb hby d7_5) rfl ?_
    show own_S p e below s₁ m 6 #[oR la, oI 0, oI 4, oI x1, oI 0, oU, oU, oU] [(.int ((4 : Int32) - (1 : Int32)))] _
    refine reI (by decide : ((4 : Int32) - (1 : Int32)) = (3 : Int32)) ?_
    show own_S p e below s₁ m 6 #[oR la, oI 0, oI 4, oI x1, oI 0, oU, oU, oU] [(.int 3)] _
    refine XS.istore X0.here hx rfl (hb hby d7_6) rfl (l' := #[.val (.ref la), .val (.int 0), .val (.int 4), .val (.int x1), .val (.int 0), .val (.int 3), .unset, .unset]) rfl ?_
    show own_S p e below s₁ m 8 #[oR la, oI 0, oI 4, oI x1, oI 0, oI 3, oU, oU] [] _
    refine XS.iload X0.here hx rfl (hb hby d7_8) rfl ?_
    show own_S p e below s₁ m 10 #[oR la, oI 0, oI 4, oI x1, oI 0, oI 3, oU, oU] [(.int 0)] _
    refine XS.iload X0.here hx rfl (hb hby d7_10) rfl ?_
    show own_S p e below s₁ m 12 #[oR la, oI 0, oI 4, oI x1, oI 0, oI 3, oU, oU] [(.int 3), (.int 0)] _
    refine XS.icmpNo X0.here hx rfl (hb hby d7_12) rfl (flt (by decide : ¬ ((3 : Int32) < (0 : Int32)))).2.2.1 ?_
    show own_S p e below s₁ m 15 #[oR la, oI 0, oI 4, oI x1, oI 0, oI 3, oU, oU] [] _
    refine XS.iload X0.here hx rfl (hb hby d7_15) rfl ?_
    show own_S p e below s₁ m 17 #[oR la, oI 0, oI 4, oI x1, oI 0, oI 3, oU, oU] [(.int 0)] _
    refine XS.iload X0.here hx rfl (hb hby d7_17) rfl ?_
    show own_S p e below s₁ m 19 #[oR la, oI 0, oI 4, oI x1, oI 0, oI 3, oU, oU] [(.int 3), (.int 0)] _
    refine XS.iadd X0.here hx rfl (hb hby d7_19) rfl ?_
    show own_S p e below s₁ m 20 #[oR la, oI 0, oI 4, oI x1, oI 0, oI 3, oU, oU] [(.int ((0 : Int32) + (3 : Int32)))] _
    refine reI (by decide : ((0 : Int32) + (3 : Int32)) = (3 : Int32)) ?_
    show own_S p e below s₁ m 20 #[oR la, oI 0, oI 4, oI x1, oI 0, oI 3, oU, oU] [(.int 3)] _
    refine XS.iconst X0.here hx rfl (hb hby d7_20) ?_
    show own_S p e below s₁ m 21 #[oR la, oI 0, oI 4, oI x1, oI 0, oI 3, oU, oU] [(.int 1), (.int 3)] _
    refine XS.iushr X0.here hx rfl (hb hby d7_21) rfl ?_
    show own_S p e below s₁ m 22 #[oR la, oI 0, oI 4, oI x1, oI 0, oI 3, oU, oU] [(.int (((3 : Int32).toUInt32 >>> ((1 : Int32) &&& 31).toUInt32).toInt32))] _
    refine reI (by decide : (((3 : Int32).toUInt32 >>> ((1 : Int32) &&& 31).toUInt32).toInt32) = (1 : Int32)) ?_
    show own_S p e below s₁ m 22 #[oR la, oI 0, oI 4, oI x1, oI 0, oI 3, oU, oU] [(.int 1)] _
    refine XS.istore X0.here hx rfl (hb hby d7_22) rfl (l' := #[.val (.ref la), .val (.int 0), .val (.int 4), .val (.int x1), .val (.int 0), .val (.int 3), .val (.int 1), .unset]) rfl ?_
    show own_S p e below s₁ m 24 #[oR la, oI 0, oI 4, oI x1, oI 0, oI 3, oI 1, oU] [] _
    refine XS.aloadN X0.here hx rfl (hb hby d7_24) rfl rfl ?_
    show own_S p e below s₁ m 25 #[oR la, oI 0, oI 4, oI x1, oI 0, oI 3, oI 1, oU] [(.ref la)] _
    refine XS.iload X0.here hx rfl (hb hby d7_25) rfl ?_
    show own_S p e below s₁ m 27 #[oR la, oI 0, oI 4, oI x1, oI 0, oI 3, oI 1, oU] [(.int 1), (.ref la)] _
    refine X0.iaload hx (j := (1 : Int32)) (v := (.int x1)) (by rw [e0]; exact Ar101.1) (State.isArrayOf_alike hZ.alike Ar101.2.1) Ar101.2.2 hin101 hat101 (g := (mkF m 27 #[.val (.ref la), .val (.int 0), .val (.int 4), .val (.int x1), .val (.int 0), .val (.int 3), .val (.int 1), .unset] [(.int 1), (.ref la)])) rfl rfl (hb hby d7_27) _ ?_
    show own_S p e below s₁ m 28 #[oR la, oI 0, oI 4, oI x1, oI 0, oI 3, oI 1, oU] [(.int x1)] _
    refine XS.istore X0.here hx rfl (hb hby d7_28) rfl (l' := #[.val (.ref la), .val (.int 0), .val (.int 4), .val (.int x1), .val (.int 0), .val (.int 3), .val (.int 1), .val (.int x1)]) rfl ?_
    show own_S p e below s₁ m 30 #[oR la, oI 0, oI 4, oI x1, oI 0, oI 3, oI 1, oI x1] [] _
    refine XS.iload X0.here hx rfl (hb hby d7_30) rfl ?_
    show own_S p e below s₁ m 32 #[oR la, oI 0, oI 4, oI x1, oI 0, oI 3, oI 1, oI x1] [(.int x1)] _
    refine XS.iloadN X0.here hx rfl (hb hby d7_32) rfl ?_
    show own_S p e below s₁ m 33 #[oR la, oI 0, oI 4, oI x1, oI 0, oI 3, oI 1, oI x1] [(.int x1), (.int x1)] _
    refine XS.icmpYes X0.here hx rfl (pc0 := 33) (pc' := 45) rfl (hb hby d7_33) rfl (flt (own_irr : ¬ (x1 < x1))).2.1 (by decide) (by decide) ?_
    show own_S p e below s₁ m 45 #[oR la, oI 0, oI 4, oI x1, oI 0, oI 3, oI 1, oI x1] [] _
    refine XS.iload X0.here hx rfl (hb hby d7_45) rfl ?_
    show own_S p e below s₁ m 47 #[oR la, oI 0, oI 4, oI x1, oI 0, oI 3, oI 1, oI x1] [(.int x1)] _
    refine XS.iloadN X0.here hx rfl (hb hby d7_47) rfl ?_
    show own_S p e below s₁ m 48 #[oR la, oI 0, oI 4, oI x1, oI 0, oI 3, oI 1, oI x1] [(.int x1), (.int x1)] _
    refine XS.icmpYes X0.here hx rfl (pc0 := 48) (pc' := 60) rfl (hb hby d7_48) rfl (flt (own_irr : ¬ (x1 < x1))).2.2.2 (by decide) (by decide) ?_
    show own_S p e below s₁ m 60 #[oR la, oI 0, oI 4, oI x1, oI 0, oI 3, oI 1, oI x1] [] _
    refine XS.iload X0.here hx rfl (hb hby d7_60) rfl ?_
    show own_S p e below s₁ m 62 #[oR la, oI 0, oI 4, oI x1, oI 0, oI 3, oI 1, oI x1] [(.int 1)] _
    exact retOut X0 hx Bd.returns rfl (Or.inl ⟨rfl, Or.inl rfl, _, rfl⟩) (hb hby d7_62) hr
  · show Q7_0_4_1 Z la x1 kk x0 x2 x3 h0 n0 _ s₁.heap _
    rw [e0]
    exact ⟨rfl, N0, rfl⟩
theorem ef7_0_4_2 (m : MethodId) (la : Addr) (x2 : Int32) : entryFrame m #[(.ref la), (.int 0), (.int 4), (.int x2)] 8 = mkF m 0 #[.val (.ref la), .val (.int 0), .val (.int 4), .val (.int x2), .unset, .unset, .unset, .unset] [] := by first | (simp [entryFrame, mkF, argsToLocals, Value.category]; done) | rfl
def Q7_0_4_2 (Z : State) (la : Addr) (x2 : Int32) (kk : ClassId) (x0 : Int32) (x1 : Int32) (x3 : Int32) (h0 : Heap) (n0 : Nat) (v : Option Value) (h : Heap) (L : List Loc) : Prop := v = some (.int 2) ∧ Fr n0 L ∧ (h = h0)
set_option maxRecDepth 65536 in
set_option maxHeartbeats 40000000 in
theorem rm7_0_4_2 (l : Launch) (Z : State) (a0 : Array Value) (hw : ∀ d ∈ tables_1, d.before a0 Z = true) (ws : List Jvm.Cond) (la : Addr) (x2 : Int32) (kk : ClassId) (x0 : Int32) (x1 : Int32) (x3 : Int32) (h0 : Heap) (n0 : Nat) (Z0 : n0 ≤ h0.size) (V_la : Arv Z h0 la kk .int (4 : Int32) [(.int x0), (.int x1), (.int x2), (.int x3)] (.int 0)) (o01 : x0 < x1) (o02 : x0 < x2) (o03 : x0 < x3) (o12 : x1 < x2) (o13 : x1 < x3) (o23 : x2 < x3) :
    MetFree l (⟨"java/util/Arrays", "binarySearch0", "([IIII)I"⟩ : MethodName) (head1 (Jvm.Cond.code (⟨"java/util/Arrays", "binarySearch0", "([IIII)I"⟩ : MethodName) jdk_65_method_59_code 8 (some .int) :: ws) ({ frames := 0, cells := 0, slots := 0, locals := 0 } : Room)) (fun a U => a = #[(.ref la), (.int 0), (.int 4), (.int x2)] ∧ Z.Warmed39 U.vm ∧ U.heap = h0) (fun _ _ _ _ _ => True) (fun _ U o U' => ∃ v L, o = .returned v ∧ Q7_0_4_2 Z la x2 kk x0 x1 x3 h0 n0 v U'.heap L ∧ FrameEnd U o U' L ({ frames := 0, cells := 0, slots := 0, locals := 0 } : Room).cells ({ frames := 0, cells := 0, slots := 0, locals := 0 } : Room).slots) := by
  refine MetFree.of_bodySF (plainFor_of_name pn1) hisR ?_
  intro p e s m args below meth c s₁ Bd hml0 hP hK
  obtain ⟨rfl, hZ, hh⟩ := hP
  have hx := Bd.exec
  have hby := Bd.bytes
  have hml : c.maxLocals = 8 := hml0
  have hown : s.vm.findClass "java/util/Arrays" = some m.cls := findClass_of_methodNamed Bd.named
  have hnm := (name_of_methodNamed Bd.named Bd.method).1
  have X0 : Stand p l e ({ frames := 0, cells := 0, slots := 0, locals := 0 } : Room) s m #[(.ref la), (.int 0), (.int 4), (.int x2)] below meth c s₁ [] 0 0 := Stand.of_body Bd
  have e0 : s₁.heap = h0 := by rw [← hh, Bd.state]; rfl
  have N0 := Fr.nil n0
  have pre0 : ∀ t, Steps p.tables e below (s₁.setTop (mkF m 0 #[.val (.ref la), .val (.int 0), .val (.int 4), .val (.int x2), .unset, .unset, .unset, .unset] [])) t → Steps p.tables e below (s₁.setTop (entryFrame m #[(.ref la), (.int 0), (.int 4), (.int x2)] 8)) t := fun t k => castTop (ef7_0_4_2 m la x2) k
  obtain ⟨cl101, Ar101, qk101, Sz101, Nz101, Hh101, Gg101⟩ := id V_la
  have hin101 : ¬ ((1 : Int32) < 0 ∨ cl101.slots.size ≤ ((1 : Int32)).toNatClampNeg) := inb_of Sz101 ⟨by decide, by decide⟩
  have hat101 : cl101.slots[((1 : Int32)).toNatClampNeg]? = some (.int x1) := Has.at Hh101 hin101 rfl
  obtain ⟨cl102, Ar102, qk102, Sz102, Nz102, Hh102, Gg102⟩ := id V_la
  have hin102 : ¬ ((2 : Int32) < 0 ∨ cl102.slots.size ≤ ((2 : Int32)).toNatClampNeg) := inb_of Sz102 ⟨by decide, by decide⟩
  have hat102 : cl102.slots[((2 : Int32)).toNatClampNeg]? = some (.int x2) := Has.at Hh102 hin102 rfl
  obtain ⟨fs, hr, hrun, hended, hW, hsame⟩ := X0.leave (v := some (.int 2)) (fun h => by rw [Bd.returns] at h; cases h)
  refine ⟨_, _, pre0 _ ?_, hrun, hended, _, _, rfl, ?_, ⟨_, rfl⟩, hW, hsame.mono (by decide) (by decide)⟩
  · show own_S p e below s₁ m 0 #[oR la, oI 0, oI 4, oI x2, oU, oU, oU, oU] [] _
    refine XS.iloadN X0.here hx rfl (hb hby d7_0) rfl ?_
    show own_S p e below s₁ m 1 #[oR la, oI 0, oI 4, oI x2, oU, oU, oU, oU] [(.int 0)] _
    refine XS.istore X0.here hx rfl (hb hby d7_1) rfl (l' := #[.val (.ref la), .val (.int 0), .val (.int 4), .val (.int x2), .val (.int 0), .unset, .unset, .unset]) rfl ?_
    show own_S p e below s₁ m 3 #[oR la, oI 0, oI 4, oI x2, oI 0, oU, oU, oU] [] _
    refine XS.iloadN X0.here hx rfl (hb hby d7_3) rfl ?_
    show own_S p e below s₁ m 4 #[oR la, oI 0, oI 4, oI x2, oI 0, oU, oU, oU] [(.int 4)] _
    refine XS.iconst X0.here hx rfl (hb hby d7_4) ?_
    show own_S p e below s₁ m 5 #[oR la, oI 0, oI 4, oI x2, oI 0, oU, oU, oU] [(.int 1), (.int 4)] _
    refine XS.isub X0.here hx rfl (hb hby d7_5) rfl ?_
    show own_S p e below s₁ m 6 #[oR la, oI 0, oI 4, oI x2, oI 0, oU, oU, oU] [(.int ((4 : Int32) - (1 : Int32)))] _
    refine reI (by decide : ((4 : Int32) - (1 : Int32)) = (3 : Int32)) ?_
    show own_S p e below s₁ m 6 #[oR la, oI 0, oI 4, oI x2, oI 0, oU, oU, oU] [(.int 3)] _
    refine XS.istore X0.here hx rfl (hb hby d7_6) rfl (l' := #[.val (.ref la), .val (.int 0), .val (.int 4), .val (.int x2), .val (.int 0), .val (.int 3), .unset, .unset]) rfl ?_
    show own_S p e below s₁ m 8 #[oR la, oI 0, oI 4, oI x2, oI 0, oI 3, oU, oU] [] _
    refine XS.iload X0.here hx rfl (hb hby d7_8) rfl ?_
    show own_S p e below s₁ m 10 #[oR la, oI 0, oI 4, oI x2, oI 0, oI 3, oU, oU] [(.int 0)] _
    refine XS.iload X0.here hx rfl (hb hby d7_10) rfl ?_
    show own_S p e below s₁ m 12 #[oR la, oI 0, oI 4, oI x2, oI 0, oI 3, oU, oU] [(.int 3), (.int 0)] _
    refine XS.icmpNo X0.here hx rfl (hb hby d7_12) rfl (flt (by decide : ¬ ((3 : Int32) < (0 : Int32)))).2.2.1 ?_
    show own_S p e below s₁ m 15 #[oR la, oI 0, oI 4, oI x2, oI 0, oI 3, oU, oU] [] _
    refine XS.iload X0.here hx rfl (hb hby d7_15) rfl ?_
    show own_S p e below s₁ m 17 #[oR la, oI 0, oI 4, oI x2, oI 0, oI 3, oU, oU] [(.int 0)] _
    refine XS.iload X0.here hx rfl (hb hby d7_17) rfl ?_
    show own_S p e below s₁ m 19 #[oR la, oI 0, oI 4, oI x2, oI 0, oI 3, oU, oU] [(.int 3), (.int 0)] _
    refine XS.iadd X0.here hx rfl (hb hby d7_19) rfl ?_
    show own_S p e below s₁ m 20 #[oR la, oI 0, oI 4, oI x2, oI 0, oI 3, oU, oU] [(.int ((0 : Int32) + (3 : Int32)))] _
    refine reI (by decide : ((0 : Int32) + (3 : Int32)) = (3 : Int32)) ?_
    show own_S p e below s₁ m 20 #[oR la, oI 0, oI 4, oI x2, oI 0, oI 3, oU, oU] [(.int 3)] _
    refine XS.iconst X0.here hx rfl (hb hby d7_20) ?_
    show own_S p e below s₁ m 21 #[oR la, oI 0, oI 4, oI x2, oI 0, oI 3, oU, oU] [(.int 1), (.int 3)] _
    refine XS.iushr X0.here hx rfl (hb hby d7_21) rfl ?_
    show own_S p e below s₁ m 22 #[oR la, oI 0, oI 4, oI x2, oI 0, oI 3, oU, oU] [(.int (((3 : Int32).toUInt32 >>> ((1 : Int32) &&& 31).toUInt32).toInt32))] _
    refine reI (by decide : (((3 : Int32).toUInt32 >>> ((1 : Int32) &&& 31).toUInt32).toInt32) = (1 : Int32)) ?_
    show own_S p e below s₁ m 22 #[oR la, oI 0, oI 4, oI x2, oI 0, oI 3, oU, oU] [(.int 1)] _
    refine XS.istore X0.here hx rfl (hb hby d7_22) rfl (l' := #[.val (.ref la), .val (.int 0), .val (.int 4), .val (.int x2), .val (.int 0), .val (.int 3), .val (.int 1), .unset]) rfl ?_
    show own_S p e below s₁ m 24 #[oR la, oI 0, oI 4, oI x2, oI 0, oI 3, oI 1, oU] [] _
    refine XS.aloadN X0.here hx rfl (hb hby d7_24) rfl rfl ?_
    show own_S p e below s₁ m 25 #[oR la, oI 0, oI 4, oI x2, oI 0, oI 3, oI 1, oU] [(.ref la)] _
    refine XS.iload X0.here hx rfl (hb hby d7_25) rfl ?_
    show own_S p e below s₁ m 27 #[oR la, oI 0, oI 4, oI x2, oI 0, oI 3, oI 1, oU] [(.int 1), (.ref la)] _
    refine X0.iaload hx (j := (1 : Int32)) (v := (.int x1)) (by rw [e0]; exact Ar101.1) (State.isArrayOf_alike hZ.alike Ar101.2.1) Ar101.2.2 hin101 hat101 (g := (mkF m 27 #[.val (.ref la), .val (.int 0), .val (.int 4), .val (.int x2), .val (.int 0), .val (.int 3), .val (.int 1), .unset] [(.int 1), (.ref la)])) rfl rfl (hb hby d7_27) _ ?_
    show own_S p e below s₁ m 28 #[oR la, oI 0, oI 4, oI x2, oI 0, oI 3, oI 1, oU] [(.int x1)] _
    refine XS.istore X0.here hx rfl (hb hby d7_28) rfl (l' := #[.val (.ref la), .val (.int 0), .val (.int 4), .val (.int x2), .val (.int 0), .val (.int 3), .val (.int 1), .val (.int x1)]) rfl ?_
    show own_S p e below s₁ m 30 #[oR la, oI 0, oI 4, oI x2, oI 0, oI 3, oI 1, oI x1] [] _
    refine XS.iload X0.here hx rfl (hb hby d7_30) rfl ?_
    show own_S p e below s₁ m 32 #[oR la, oI 0, oI 4, oI x2, oI 0, oI 3, oI 1, oI x1] [(.int x1)] _
    refine XS.iloadN X0.here hx rfl (hb hby d7_32) rfl ?_
    show own_S p e below s₁ m 33 #[oR la, oI 0, oI 4, oI x2, oI 0, oI 3, oI 1, oI x1] [(.int x2), (.int x1)] _
    refine XS.icmpNo X0.here hx rfl (hb hby d7_33) rfl (tlt (o12 : x1 < x2)).2.1 ?_
    show own_S p e below s₁ m 36 #[oR la, oI 0, oI 4, oI x2, oI 0, oI 3, oI 1, oI x1] [] _
    refine XS.iload X0.here hx rfl (hb hby d7_36) rfl ?_
    show own_S p e below s₁ m 38 #[oR la, oI 0, oI 4, oI x2, oI 0, oI 3, oI 1, oI x1] [(.int 1)] _
    refine XS.iconst X0.here hx rfl (hb hby d7_38) ?_
    show own_S p e below s₁ m 39 #[oR la, oI 0, oI 4, oI x2, oI 0, oI 3, oI 1, oI x1] [(.int 1), (.int 1)] _
    refine XS.iadd X0.here hx rfl (hb hby d7_39) rfl ?_
    show own_S p e below s₁ m 40 #[oR la, oI 0, oI 4, oI x2, oI 0, oI 3, oI 1, oI x1] [(.int ((1 : Int32) + (1 : Int32)))] _
    refine reI (by decide : ((1 : Int32) + (1 : Int32)) = (2 : Int32)) ?_
    show own_S p e below s₁ m 40 #[oR la, oI 0, oI 4, oI x2, oI 0, oI 3, oI 1, oI x1] [(.int 2)] _
    refine XS.istore X0.here hx rfl (hb hby d7_40) rfl (l' := #[.val (.ref la), .val (.int 0), .val (.int 4), .val (.int x2), .val (.int 2), .val (.int 3), .val (.int 1), .val (.int x1)]) rfl ?_
    show own_S p e below s₁ m 42 #[oR la, oI 0, oI 4, oI x2, oI 2, oI 3, oI 1, oI x1] [] _
    refine XS.goto X0.here hx rfl (pc0 := 42) (pc' := 63) rfl (hb hby d7_42) (by decide) (by decide) ?_
    show own_S p e below s₁ m 63 #[oR la, oI 0, oI 4, oI x2, oI 2, oI 3, oI 1, oI x1] [] _
    refine XS.goto X0.here hx rfl (pc0 := 63) (pc' := 8) rfl (hb hby d7_63) (by decide) (by decide) ?_
    show own_S p e below s₁ m 8 #[oR la, oI 0, oI 4, oI x2, oI 2, oI 3, oI 1, oI x1] [] _
    refine XS.iload X0.here hx rfl (hb hby d7_8) rfl ?_
    show own_S p e below s₁ m 10 #[oR la, oI 0, oI 4, oI x2, oI 2, oI 3, oI 1, oI x1] [(.int 2)] _
    refine XS.iload X0.here hx rfl (hb hby d7_10) rfl ?_
    show own_S p e below s₁ m 12 #[oR la, oI 0, oI 4, oI x2, oI 2, oI 3, oI 1, oI x1] [(.int 3), (.int 2)] _
    refine XS.icmpNo X0.here hx rfl (hb hby d7_12) rfl (flt (by decide : ¬ ((3 : Int32) < (2 : Int32)))).2.2.1 ?_
    show own_S p e below s₁ m 15 #[oR la, oI 0, oI 4, oI x2, oI 2, oI 3, oI 1, oI x1] [] _
    refine XS.iload X0.here hx rfl (hb hby d7_15) rfl ?_
    show own_S p e below s₁ m 17 #[oR la, oI 0, oI 4, oI x2, oI 2, oI 3, oI 1, oI x1] [(.int 2)] _
    refine XS.iload X0.here hx rfl (hb hby d7_17) rfl ?_
    show own_S p e below s₁ m 19 #[oR la, oI 0, oI 4, oI x2, oI 2, oI 3, oI 1, oI x1] [(.int 3), (.int 2)] _
    refine XS.iadd X0.here hx rfl (hb hby d7_19) rfl ?_
    show own_S p e below s₁ m 20 #[oR la, oI 0, oI 4, oI x2, oI 2, oI 3, oI 1, oI x1] [(.int ((2 : Int32) + (3 : Int32)))] _
    refine reI (by decide : ((2 : Int32) + (3 : Int32)) = (5 : Int32)) ?_
    show own_S p e below s₁ m 20 #[oR la, oI 0, oI 4, oI x2, oI 2, oI 3, oI 1, oI x1] [(.int 5)] _
    refine XS.iconst X0.here hx rfl (hb hby d7_20) ?_
    show own_S p e below s₁ m 21 #[oR la, oI 0, oI 4, oI x2, oI 2, oI 3, oI 1, oI x1] [(.int 1), (.int 5)] _
    refine XS.iushr X0.here hx rfl (hb hby d7_21) rfl ?_
    show own_S p e below s₁ m 22 #[oR la, oI 0, oI 4, oI x2, oI 2, oI 3, oI 1, oI x1] [(.int (((5 : Int32).toUInt32 >>> ((1 : Int32) &&& 31).toUInt32).toInt32))] _
    refine reI (by decide : (((5 : Int32).toUInt32 >>> ((1 : Int32) &&& 31).toUInt32).toInt32) = (2 : Int32)) ?_
    show own_S p e below s₁ m 22 #[oR la, oI 0, oI 4, oI x2, oI 2, oI 3, oI 1, oI x1] [(.int 2)] _
    refine XS.istore X0.here hx rfl (hb hby d7_22) rfl (l' := #[.val (.ref la), .val (.int 0), .val (.int 4), .val (.int x2), .val (.int 2), .val (.int 3), .val (.int 2), .val (.int x1)]) rfl ?_
    show own_S p e below s₁ m 24 #[oR la, oI 0, oI 4, oI x2, oI 2, oI 3, oI 2, oI x1] [] _
    refine XS.aloadN X0.here hx rfl (hb hby d7_24) rfl rfl ?_
    show own_S p e below s₁ m 25 #[oR la, oI 0, oI 4, oI x2, oI 2, oI 3, oI 2, oI x1] [(.ref la)] _
    refine XS.iload X0.here hx rfl (hb hby d7_25) rfl ?_
    show own_S p e below s₁ m 27 #[oR la, oI 0, oI 4, oI x2, oI 2, oI 3, oI 2, oI x1] [(.int 2), (.ref la)] _
    refine X0.iaload hx (j := (2 : Int32)) (v := (.int x2)) (by rw [e0]; exact Ar102.1) (State.isArrayOf_alike hZ.alike Ar102.2.1) Ar102.2.2 hin102 hat102 (g := (mkF m 27 #[.val (.ref la), .val (.int 0), .val (.int 4), .val (.int x2), .val (.int 2), .val (.int 3), .val (.int 2), .val (.int x1)] [(.int 2), (.ref la)])) rfl rfl (hb hby d7_27) _ ?_
    show own_S p e below s₁ m 28 #[oR la, oI 0, oI 4, oI x2, oI 2, oI 3, oI 2, oI x1] [(.int x2)] _
    refine XS.istore X0.here hx rfl (hb hby d7_28) rfl (l' := #[.val (.ref la), .val (.int 0), .val (.int 4), .val (.int x2), .val (.int 2), .val (.int 3), .val (.int 2), .val (.int x2)]) rfl ?_
    show own_S p e below s₁ m 30 #[oR la, oI 0, oI 4, oI x2, oI 2, oI 3, oI 2, oI x2] [] _
    refine XS.iload X0.here hx rfl (hb hby d7_30) rfl ?_
    show own_S p e below s₁ m 32 #[oR la, oI 0, oI 4, oI x2, oI 2, oI 3, oI 2, oI x2] [(.int x2)] _
    refine XS.iloadN X0.here hx rfl (hb hby d7_32) rfl ?_
    show own_S p e below s₁ m 33 #[oR la, oI 0, oI 4, oI x2, oI 2, oI 3, oI 2, oI x2] [(.int x2), (.int x2)] _
    refine XS.icmpYes X0.here hx rfl (pc0 := 33) (pc' := 45) rfl (hb hby d7_33) rfl (flt (own_irr : ¬ (x2 < x2))).2.1 (by decide) (by decide) ?_
    show own_S p e below s₁ m 45 #[oR la, oI 0, oI 4, oI x2, oI 2, oI 3, oI 2, oI x2] [] _
    refine XS.iload X0.here hx rfl (hb hby d7_45) rfl ?_
    show own_S p e below s₁ m 47 #[oR la, oI 0, oI 4, oI x2, oI 2, oI 3, oI 2, oI x2] [(.int x2)] _
    refine XS.iloadN X0.here hx rfl (hb hby d7_47) rfl ?_
    show own_S p e below s₁ m 48 #[oR la, oI 0, oI 4, oI x2, oI 2, oI 3, oI 2, oI x2] [(.int x2), (.int x2)] _
    refine XS.icmpYes X0.here hx rfl (pc0 := 48) (pc' := 60) rfl (hb hby d7_48) rfl (flt (own_irr : ¬ (x2 < x2))).2.2.2 (by decide) (by decide) ?_
    show own_S p e below s₁ m 60 #[oR la, oI 0, oI 4, oI x2, oI 2, oI 3, oI 2, oI x2] [] _
    refine XS.iload X0.here hx rfl (hb hby d7_60) rfl ?_
    show own_S p e below s₁ m 62 #[oR la, oI 0, oI 4, oI x2, oI 2, oI 3, oI 2, oI x2] [(.int 2)] _
    exact retOut X0 hx Bd.returns rfl (Or.inl ⟨rfl, Or.inl rfl, _, rfl⟩) (hb hby d7_62) hr
  · show Q7_0_4_2 Z la x2 kk x0 x1 x3 h0 n0 _ s₁.heap _
    rw [e0]
    exact ⟨rfl, N0, rfl⟩
theorem ef7_0_4_3 (m : MethodId) (la : Addr) (x3 : Int32) : entryFrame m #[(.ref la), (.int 0), (.int 4), (.int x3)] 8 = mkF m 0 #[.val (.ref la), .val (.int 0), .val (.int 4), .val (.int x3), .unset, .unset, .unset, .unset] [] := by first | (simp [entryFrame, mkF, argsToLocals, Value.category]; done) | rfl
def Q7_0_4_3 (Z : State) (la : Addr) (x3 : Int32) (kk : ClassId) (x0 : Int32) (x1 : Int32) (x2 : Int32) (h0 : Heap) (n0 : Nat) (v : Option Value) (h : Heap) (L : List Loc) : Prop := v = some (.int 3) ∧ Fr n0 L ∧ (h = h0)
set_option maxRecDepth 65536 in
set_option maxHeartbeats 40000000 in
theorem rm7_0_4_3 (l : Launch) (Z : State) (a0 : Array Value) (hw : ∀ d ∈ tables_1, d.before a0 Z = true) (ws : List Jvm.Cond) (la : Addr) (x3 : Int32) (kk : ClassId) (x0 : Int32) (x1 : Int32) (x2 : Int32) (h0 : Heap) (n0 : Nat) (Z0 : n0 ≤ h0.size) (V_la : Arv Z h0 la kk .int (4 : Int32) [(.int x0), (.int x1), (.int x2), (.int x3)] (.int 0)) (o01 : x0 < x1) (o02 : x0 < x2) (o03 : x0 < x3) (o12 : x1 < x2) (o13 : x1 < x3) (o23 : x2 < x3) :
    MetFree l (⟨"java/util/Arrays", "binarySearch0", "([IIII)I"⟩ : MethodName) (head1 (Jvm.Cond.code (⟨"java/util/Arrays", "binarySearch0", "([IIII)I"⟩ : MethodName) jdk_65_method_59_code 8 (some .int) :: ws) ({ frames := 0, cells := 0, slots := 0, locals := 0 } : Room)) (fun a U => a = #[(.ref la), (.int 0), (.int 4), (.int x3)] ∧ Z.Warmed39 U.vm ∧ U.heap = h0) (fun _ _ _ _ _ => True) (fun _ U o U' => ∃ v L, o = .returned v ∧ Q7_0_4_3 Z la x3 kk x0 x1 x2 h0 n0 v U'.heap L ∧ FrameEnd U o U' L ({ frames := 0, cells := 0, slots := 0, locals := 0 } : Room).cells ({ frames := 0, cells := 0, slots := 0, locals := 0 } : Room).slots) := by
  refine MetFree.of_bodySF (plainFor_of_name pn1) hisR ?_
  intro p e s m args below meth c s₁ Bd hml0 hP hK
  obtain ⟨rfl, hZ, hh⟩ := hP
  have hx := Bd.exec
  have hby := Bd.bytes
  have hml : c.maxLocals = 8 := hml0
  have hown : s.vm.findClass "java/util/Arrays" = some m.cls := findClass_of_methodNamed Bd.named
  have hnm := (name_of_methodNamed Bd.named Bd.method).1
  have X0 : Stand p l e ({ frames := 0, cells := 0, slots := 0, locals := 0 } : Room) s m #[(.ref la), (.int 0), (.int 4), (.int x3)] below meth c s₁ [] 0 0 := Stand.of_body Bd
  have e0 : s₁.heap = h0 := by rw [← hh, Bd.state]; rfl
  have N0 := Fr.nil n0
  have pre0 : ∀ t, Steps p.tables e below (s₁.setTop (mkF m 0 #[.val (.ref la), .val (.int 0), .val (.int 4), .val (.int x3), .unset, .unset, .unset, .unset] [])) t → Steps p.tables e below (s₁.setTop (entryFrame m #[(.ref la), (.int 0), (.int 4), (.int x3)] 8)) t := fun t k => castTop (ef7_0_4_3 m la x3) k
  obtain ⟨cl101, Ar101, qk101, Sz101, Nz101, Hh101, Gg101⟩ := id V_la
  have hin101 : ¬ ((1 : Int32) < 0 ∨ cl101.slots.size ≤ ((1 : Int32)).toNatClampNeg) := inb_of Sz101 ⟨by decide, by decide⟩
  have hat101 : cl101.slots[((1 : Int32)).toNatClampNeg]? = some (.int x1) := Has.at Hh101 hin101 rfl
  obtain ⟨cl102, Ar102, qk102, Sz102, Nz102, Hh102, Gg102⟩ := id V_la
  have hin102 : ¬ ((2 : Int32) < 0 ∨ cl102.slots.size ≤ ((2 : Int32)).toNatClampNeg) := inb_of Sz102 ⟨by decide, by decide⟩
  have hat102 : cl102.slots[((2 : Int32)).toNatClampNeg]? = some (.int x2) := Has.at Hh102 hin102 rfl
  obtain ⟨cl103, Ar103, qk103, Sz103, Nz103, Hh103, Gg103⟩ := id V_la
  have hin103 : ¬ ((3 : Int32) < 0 ∨ cl103.slots.size ≤ ((3 : Int32)).toNatClampNeg) := inb_of Sz103 ⟨by decide, by decide⟩
  have hat103 : cl103.slots[((3 : Int32)).toNatClampNeg]? = some (.int x3) := Has.at Hh103 hin103 rfl
  obtain ⟨fs, hr, hrun, hended, hW, hsame⟩ := X0.leave (v := some (.int 3)) (fun h => by rw [Bd.returns] at h; cases h)
  refine ⟨_, _, pre0 _ ?_, hrun, hended, _, _, rfl, ?_, ⟨_, rfl⟩, hW, hsame.mono (by decide) (by decide)⟩
  · show own_S p e below s₁ m 0 #[oR la, oI 0, oI 4, oI x3, oU, oU, oU, oU] [] _
    refine XS.iloadN X0.here hx rfl (hb hby d7_0) rfl ?_
    show own_S p e below s₁ m 1 #[oR la, oI 0, oI 4, oI x3, oU, oU, oU, oU] [(.int 0)] _
    refine XS.istore X0.here hx rfl (hb hby d7_1) rfl (l' := #[.val (.ref la), .val (.int 0), .val (.int 4), .val (.int x3), .val (.int 0), .unset, .unset, .unset]) rfl ?_
    show own_S p e below s₁ m 3 #[oR la, oI 0, oI 4, oI x3, oI 0, oU, oU, oU] [] _
    refine XS.iloadN X0.here hx rfl (hb hby d7_3) rfl ?_
    show own_S p e below s₁ m 4 #[oR la, oI 0, oI 4, oI x3, oI 0, oU, oU, oU] [(.int 4)] _
    refine XS.iconst X0.here hx rfl (hb hby d7_4) ?_
    show own_S p e below s₁ m 5 #[oR la, oI 0, oI 4, oI x3, oI 0, oU, oU, oU] [(.int 1), (.int 4)] _
    refine XS.isub X0.here hx rfl (hb hby d7_5) rfl ?_
    show own_S p e below s₁ m 6 #[oR la, oI 0, oI 4, oI x3, oI 0, oU, oU, oU] [(.int ((4 : Int32) - (1 : Int32)))] _
    refine reI (by decide : ((4 : Int32) - (1 : Int32)) = (3 : Int32)) ?_
    show own_S p e below s₁ m 6 #[oR la, oI 0, oI 4, oI x3, oI 0, oU, oU, oU] [(.int 3)] _
    refine XS.istore X0.here hx rfl (hb hby d7_6) rfl (l' := #[.val (.ref la), .val (.int 0), .val (.int 4), .val (.int x3), .val (.int 0), .val (.int 3), .unset, .unset]) rfl ?_
    show own_S p e below s₁ m 8 #[oR la, oI 0, oI 4, oI x3, oI 0, oI 3, oU, oU] [] _
    refine XS.iload X0.here hx rfl (hb hby d7_8) rfl ?_
    show own_S p e below s₁ m 10 #[oR la, oI 0, oI 4, oI x3, oI 0, oI 3, oU, oU] [(.int 0)] _
    refine XS.iload X0.here hx rfl (hb hby d7_10) rfl ?_
    show own_S p e below s₁ m 12 #[oR la, oI 0, oI 4, oI x3, oI 0, oI 3, oU, oU] [(.int 3), (.int 0)] _
    refine XS.icmpNo X0.here hx rfl (hb hby d7_12) rfl (flt (by decide : ¬ ((3 : Int32) < (0 : Int32)))).2.2.1 ?_
    show own_S p e below s₁ m 15 #[oR la, oI 0, oI 4, oI x3, oI 0, oI 3, oU, oU] [] _
    refine XS.iload X0.here hx rfl (hb hby d7_15) rfl ?_
    show own_S p e below s₁ m 17 #[oR la, oI 0, oI 4, oI x3, oI 0, oI 3, oU, oU] [(.int 0)] _
    refine XS.iload X0.here hx rfl (hb hby d7_17) rfl ?_
    show own_S p e below s₁ m 19 #[oR la, oI 0, oI 4, oI x3, oI 0, oI 3, oU, oU] [(.int 3), (.int 0)] _
    refine XS.iadd X0.here hx rfl (hb hby d7_19) rfl ?_
    show own_S p e below s₁ m 20 #[oR la, oI 0, oI 4, oI x3, oI 0, oI 3, oU, oU] [(.int ((0 : Int32) + (3 : Int32)))] _
    refine reI (by decide : ((0 : Int32) + (3 : Int32)) = (3 : Int32)) ?_
    show own_S p e below s₁ m 20 #[oR la, oI 0, oI 4, oI x3, oI 0, oI 3, oU, oU] [(.int 3)] _
    refine XS.iconst X0.here hx rfl (hb hby d7_20) ?_
    show own_S p e below s₁ m 21 #[oR la, oI 0, oI 4, oI x3, oI 0, oI 3, oU, oU] [(.int 1), (.int 3)] _
    refine XS.iushr X0.here hx rfl (hb hby d7_21) rfl ?_
    show own_S p e below s₁ m 22 #[oR la, oI 0, oI 4, oI x3, oI 0, oI 3, oU, oU] [(.int (((3 : Int32).toUInt32 >>> ((1 : Int32) &&& 31).toUInt32).toInt32))] _
    refine reI (by decide : (((3 : Int32).toUInt32 >>> ((1 : Int32) &&& 31).toUInt32).toInt32) = (1 : Int32)) ?_
    show own_S p e below s₁ m 22 #[oR la, oI 0, oI 4, oI x3, oI 0, oI 3, oU, oU] [(.int 1)] _
    refine XS.istore X0.here hx rfl (hb hby d7_22) rfl (l' := #[.val (.ref la), .val (.int 0), .val (.int 4), .val (.int x3), .val (.int 0), .val (.int 3), .val (.int 1), .unset]) rfl ?_
    show own_S p e below s₁ m 24 #[oR la, oI 0, oI 4, oI x3, oI 0, oI 3, oI 1, oU] [] _
    refine XS.aloadN X0.here hx rfl (hb hby d7_24) rfl rfl ?_
    show own_S p e below s₁ m 25 #[oR la, oI 0, oI 4, oI x3, oI 0, oI 3, oI 1, oU] [(.ref la)] _
    refine XS.iload X0.here hx rfl (hb hby d7_25) rfl ?_
    show own_S p e below s₁ m 27 #[oR la, oI 0, oI 4, oI x3, oI 0, oI 3, oI 1, oU] [(.int 1), (.ref la)] _
    refine X0.iaload hx (j := (1 : Int32)) (v := (.int x1)) (by rw [e0]; exact Ar101.1) (State.isArrayOf_alike hZ.alike Ar101.2.1) Ar101.2.2 hin101 hat101 (g := (mkF m 27 #[.val (.ref la), .val (.int 0), .val (.int 4), .val (.int x3), .val (.int 0), .val (.int 3), .val (.int 1), .unset] [(.int 1), (.ref la)])) rfl rfl (hb hby d7_27) _ ?_
    show own_S p e below s₁ m 28 #[oR la, oI 0, oI 4, oI x3, oI 0, oI 3, oI 1, oU] [(.int x1)] _
    refine XS.istore X0.here hx rfl (hb hby d7_28) rfl (l' := #[.val (.ref la), .val (.int 0), .val (.int 4), .val (.int x3), .val (.int 0), .val (.int 3), .val (.int 1), .val (.int x1)]) rfl ?_
    show own_S p e below s₁ m 30 #[oR la, oI 0, oI 4, oI x3, oI 0, oI 3, oI 1, oI x1] [] _
    refine XS.iload X0.here hx rfl (hb hby d7_30) rfl ?_
    show own_S p e below s₁ m 32 #[oR la, oI 0, oI 4, oI x3, oI 0, oI 3, oI 1, oI x1] [(.int x1)] _
    refine XS.iloadN X0.here hx rfl (hb hby d7_32) rfl ?_
    show own_S p e below s₁ m 33 #[oR la, oI 0, oI 4, oI x3, oI 0, oI 3, oI 1, oI x1] [(.int x3), (.int x1)] _
    refine XS.icmpNo X0.here hx rfl (hb hby d7_33) rfl (tlt (o13 : x1 < x3)).2.1 ?_
    show own_S p e below s₁ m 36 #[oR la, oI 0, oI 4, oI x3, oI 0, oI 3, oI 1, oI x1] [] _
    refine XS.iload X0.here hx rfl (hb hby d7_36) rfl ?_
    show own_S p e below s₁ m 38 #[oR la, oI 0, oI 4, oI x3, oI 0, oI 3, oI 1, oI x1] [(.int 1)] _
    refine XS.iconst X0.here hx rfl (hb hby d7_38) ?_
    show own_S p e below s₁ m 39 #[oR la, oI 0, oI 4, oI x3, oI 0, oI 3, oI 1, oI x1] [(.int 1), (.int 1)] _
    refine XS.iadd X0.here hx rfl (hb hby d7_39) rfl ?_
    show own_S p e below s₁ m 40 #[oR la, oI 0, oI 4, oI x3, oI 0, oI 3, oI 1, oI x1] [(.int ((1 : Int32) + (1 : Int32)))] _
    refine reI (by decide : ((1 : Int32) + (1 : Int32)) = (2 : Int32)) ?_
    show own_S p e below s₁ m 40 #[oR la, oI 0, oI 4, oI x3, oI 0, oI 3, oI 1, oI x1] [(.int 2)] _
    refine XS.istore X0.here hx rfl (hb hby d7_40) rfl (l' := #[.val (.ref la), .val (.int 0), .val (.int 4), .val (.int x3), .val (.int 2), .val (.int 3), .val (.int 1), .val (.int x1)]) rfl ?_
    show own_S p e below s₁ m 42 #[oR la, oI 0, oI 4, oI x3, oI 2, oI 3, oI 1, oI x1] [] _
    refine XS.goto X0.here hx rfl (pc0 := 42) (pc' := 63) rfl (hb hby d7_42) (by decide) (by decide) ?_
    show own_S p e below s₁ m 63 #[oR la, oI 0, oI 4, oI x3, oI 2, oI 3, oI 1, oI x1] [] _
    refine XS.goto X0.here hx rfl (pc0 := 63) (pc' := 8) rfl (hb hby d7_63) (by decide) (by decide) ?_
    show own_S p e below s₁ m 8 #[oR la, oI 0, oI 4, oI x3, oI 2, oI 3, oI 1, oI x1] [] _
    refine XS.iload X0.here hx rfl (hb hby d7_8) rfl ?_
    show own_S p e below s₁ m 10 #[oR la, oI 0, oI 4, oI x3, oI 2, oI 3, oI 1, oI x1] [(.int 2)] _
    refine XS.iload X0.here hx rfl (hb hby d7_10) rfl ?_
    show own_S p e below s₁ m 12 #[oR la, oI 0, oI 4, oI x3, oI 2, oI 3, oI 1, oI x1] [(.int 3), (.int 2)] _
    refine XS.icmpNo X0.here hx rfl (hb hby d7_12) rfl (flt (by decide : ¬ ((3 : Int32) < (2 : Int32)))).2.2.1 ?_
    show own_S p e below s₁ m 15 #[oR la, oI 0, oI 4, oI x3, oI 2, oI 3, oI 1, oI x1] [] _
    refine XS.iload X0.here hx rfl (hb hby d7_15) rfl ?_
    show own_S p e below s₁ m 17 #[oR la, oI 0, oI 4, oI x3, oI 2, oI 3, oI 1, oI x1] [(.int 2)] _
    refine XS.iload X0.here hx rfl (hb hby d7_17) rfl ?_
    show own_S p e below s₁ m 19 #[oR la, oI 0, oI 4, oI x3, oI 2, oI 3, oI 1, oI x1] [(.int 3), (.int 2)] _
    refine XS.iadd X0.here hx rfl (hb hby d7_19) rfl ?_
    show own_S p e below s₁ m 20 #[oR la, oI 0, oI 4, oI x3, oI 2, oI 3, oI 1, oI x1] [(.int ((2 : Int32) + (3 : Int32)))] _
    refine reI (by decide : ((2 : Int32) + (3 : Int32)) = (5 : Int32)) ?_
    show own_S p e below s₁ m 20 #[oR la, oI 0, oI 4, oI x3, oI 2, oI 3, oI 1, oI x1] [(.int 5)] _
    refine XS.iconst X0.here hx rfl (hb hby d7_20) ?_
    show own_S p e below s₁ m 21 #[oR la, oI 0, oI 4, oI x3, oI 2, oI 3, oI 1, oI x1] [(.int 1), (.int 5)] _
    refine XS.iushr X0.here hx rfl (hb hby d7_21) rfl ?_
    show own_S p e below s₁ m 22 #[oR la, oI 0, oI 4, oI x3, oI 2, oI 3, oI 1, oI x1] [(.int (((5 : Int32).toUInt32 >>> ((1 : Int32) &&& 31).toUInt32).toInt32))] _
    refine reI (by decide : (((5 : Int32).toUInt32 >>> ((1 : Int32) &&& 31).toUInt32).toInt32) = (2 : Int32)) ?_
    show own_S p e below s₁ m 22 #[oR la, oI 0, oI 4, oI x3, oI 2, oI 3, oI 1, oI x1] [(.int 2)] _
    refine XS.istore X0.here hx rfl (hb hby d7_22) rfl (l' := #[.val (.ref la), .val (.int 0), .val (.int 4), .val (.int x3), .val (.int 2), .val (.int 3), .val (.int 2), .val (.int x1)]) rfl ?_
    show own_S p e below s₁ m 24 #[oR la, oI 0, oI 4, oI x3, oI 2, oI 3, oI 2, oI x1] [] _
    refine XS.aloadN X0.here hx rfl (hb hby d7_24) rfl rfl ?_
    show own_S p e below s₁ m 25 #[oR la, oI 0, oI 4, oI x3, oI 2, oI 3, oI 2, oI x1] [(.ref la)] _
    refine XS.iload X0.here hx rfl (hb hby d7_25) rfl ?_
    show own_S p e below s₁ m 27 #[oR la, oI 0, oI 4, oI x3, oI 2, oI 3, oI 2, oI x1] [(.int 2), (.ref la)] _
    refine X0.iaload hx (j := (2 : Int32)) (v := (.int x2)) (by rw [e0]; exact Ar102.1) (State.isArrayOf_alike hZ.alike Ar102.2.1) Ar102.2.2 hin102 hat102 (g := (mkF m 27 #[.val (.ref la), .val (.int 0), .val (.int 4), .val (.int x3), .val (.int 2), .val (.int 3), .val (.int 2), .val (.int x1)] [(.int 2), (.ref la)])) rfl rfl (hb hby d7_27) _ ?_
    show own_S p e below s₁ m 28 #[oR la, oI 0, oI 4, oI x3, oI 2, oI 3, oI 2, oI x1] [(.int x2)] _
    refine XS.istore X0.here hx rfl (hb hby d7_28) rfl (l' := #[.val (.ref la), .val (.int 0), .val (.int 4), .val (.int x3), .val (.int 2), .val (.int 3), .val (.int 2), .val (.int x2)]) rfl ?_
    show own_S p e below s₁ m 30 #[oR la, oI 0, oI 4, oI x3, oI 2, oI 3, oI 2, oI x2] [] _
    refine XS.iload X0.here hx rfl (hb hby d7_30) rfl ?_
    show own_S p e below s₁ m 32 #[oR la, oI 0, oI 4, oI x3, oI 2, oI 3, oI 2, oI x2] [(.int x2)] _
    refine XS.iloadN X0.here hx rfl (hb hby d7_32) rfl ?_
    show own_S p e below s₁ m 33 #[oR la, oI 0, oI 4, oI x3, oI 2, oI 3, oI 2, oI x2] [(.int x3), (.int x2)] _
    refine XS.icmpNo X0.here hx rfl (hb hby d7_33) rfl (tlt (o23 : x2 < x3)).2.1 ?_
    show own_S p e below s₁ m 36 #[oR la, oI 0, oI 4, oI x3, oI 2, oI 3, oI 2, oI x2] [] _
    refine XS.iload X0.here hx rfl (hb hby d7_36) rfl ?_
    show own_S p e below s₁ m 38 #[oR la, oI 0, oI 4, oI x3, oI 2, oI 3, oI 2, oI x2] [(.int 2)] _
    refine XS.iconst X0.here hx rfl (hb hby d7_38) ?_
    show own_S p e below s₁ m 39 #[oR la, oI 0, oI 4, oI x3, oI 2, oI 3, oI 2, oI x2] [(.int 1), (.int 2)] _
    refine XS.iadd X0.here hx rfl (hb hby d7_39) rfl ?_
    show own_S p e below s₁ m 40 #[oR la, oI 0, oI 4, oI x3, oI 2, oI 3, oI 2, oI x2] [(.int ((2 : Int32) + (1 : Int32)))] _
    refine reI (by decide : ((2 : Int32) + (1 : Int32)) = (3 : Int32)) ?_
    show own_S p e below s₁ m 40 #[oR la, oI 0, oI 4, oI x3, oI 2, oI 3, oI 2, oI x2] [(.int 3)] _
    refine XS.istore X0.here hx rfl (hb hby d7_40) rfl (l' := #[.val (.ref la), .val (.int 0), .val (.int 4), .val (.int x3), .val (.int 3), .val (.int 3), .val (.int 2), .val (.int x2)]) rfl ?_
    show own_S p e below s₁ m 42 #[oR la, oI 0, oI 4, oI x3, oI 3, oI 3, oI 2, oI x2] [] _
    refine XS.goto X0.here hx rfl (pc0 := 42) (pc' := 63) rfl (hb hby d7_42) (by decide) (by decide) ?_
    show own_S p e below s₁ m 63 #[oR la, oI 0, oI 4, oI x3, oI 3, oI 3, oI 2, oI x2] [] _
    refine XS.goto X0.here hx rfl (pc0 := 63) (pc' := 8) rfl (hb hby d7_63) (by decide) (by decide) ?_
    show own_S p e below s₁ m 8 #[oR la, oI 0, oI 4, oI x3, oI 3, oI 3, oI 2, oI x2] [] _
    refine XS.iload X0.here hx rfl (hb hby d7_8) rfl ?_
    show own_S p e below s₁ m 10 #[oR la, oI 0, oI 4, oI x3, oI 3, oI 3, oI 2, oI x2] [(.int 3)] _
    refine XS.iload X0.here hx rfl (hb hby d7_10) rfl ?_
    show own_S p e below s₁ m 12 #[oR la, oI 0, oI 4, oI x3, oI 3, oI 3, oI 2, oI x2] [(.int 3), (.int 3)] _
    refine XS.icmpNo X0.here hx rfl (hb hby d7_12) rfl (flt (by decide : ¬ ((3 : Int32) < (3 : Int32)))).2.2.1 ?_
    show own_S p e below s₁ m 15 #[oR la, oI 0, oI 4, oI x3, oI 3, oI 3, oI 2, oI x2] [] _
    refine XS.iload X0.here hx rfl (hb hby d7_15) rfl ?_
    show own_S p e below s₁ m 17 #[oR la, oI 0, oI 4, oI x3, oI 3, oI 3, oI 2, oI x2] [(.int 3)] _
    refine XS.iload X0.here hx rfl (hb hby d7_17) rfl ?_
    show own_S p e below s₁ m 19 #[oR la, oI 0, oI 4, oI x3, oI 3, oI 3, oI 2, oI x2] [(.int 3), (.int 3)] _
    refine XS.iadd X0.here hx rfl (hb hby d7_19) rfl ?_
    show own_S p e below s₁ m 20 #[oR la, oI 0, oI 4, oI x3, oI 3, oI 3, oI 2, oI x2] [(.int ((3 : Int32) + (3 : Int32)))] _
    refine reI (by decide : ((3 : Int32) + (3 : Int32)) = (6 : Int32)) ?_
    show own_S p e below s₁ m 20 #[oR la, oI 0, oI 4, oI x3, oI 3, oI 3, oI 2, oI x2] [(.int 6)] _
    refine XS.iconst X0.here hx rfl (hb hby d7_20) ?_
    show own_S p e below s₁ m 21 #[oR la, oI 0, oI 4, oI x3, oI 3, oI 3, oI 2, oI x2] [(.int 1), (.int 6)] _
    refine XS.iushr X0.here hx rfl (hb hby d7_21) rfl ?_
    show own_S p e below s₁ m 22 #[oR la, oI 0, oI 4, oI x3, oI 3, oI 3, oI 2, oI x2] [(.int (((6 : Int32).toUInt32 >>> ((1 : Int32) &&& 31).toUInt32).toInt32))] _
    refine reI (by decide : (((6 : Int32).toUInt32 >>> ((1 : Int32) &&& 31).toUInt32).toInt32) = (3 : Int32)) ?_
    show own_S p e below s₁ m 22 #[oR la, oI 0, oI 4, oI x3, oI 3, oI 3, oI 2, oI x2] [(.int 3)] _
    refine XS.istore X0.here hx rfl (hb hby d7_22) rfl (l' := #[.val (.ref la), .val (.int 0), .val (.int 4), .val (.int x3), .val (.int 3), .val (.int 3), .val (.int 3), .val (.int x2)]) rfl ?_
    show own_S p e below s₁ m 24 #[oR la, oI 0, oI 4, oI x3, oI 3, oI 3, oI 3, oI x2] [] _
    refine XS.aloadN X0.here hx rfl (hb hby d7_24) rfl rfl ?_
    show own_S p e below s₁ m 25 #[oR la, oI 0, oI 4, oI x3, oI 3, oI 3, oI 3, oI x2] [(.ref la)] _
    refine XS.iload X0.here hx rfl (hb hby d7_25) rfl ?_
    show own_S p e below s₁ m 27 #[oR la, oI 0, oI 4, oI x3, oI 3, oI 3, oI 3, oI x2] [(.int 3), (.ref la)] _
    refine X0.iaload hx (j := (3 : Int32)) (v := (.int x3)) (by rw [e0]; exact Ar103.1) (State.isArrayOf_alike hZ.alike Ar103.2.1) Ar103.2.2 hin103 hat103 (g := (mkF m 27 #[.val (.ref la), .val (.int 0), .val (.int 4), .val (.int x3), .val (.int 3), .val (.int 3), .val (.int 3), .val (.int x2)] [(.int 3), (.ref la)])) rfl rfl (hb hby d7_27) _ ?_
    show own_S p e below s₁ m 28 #[oR la, oI 0, oI 4, oI x3, oI 3, oI 3, oI 3, oI x2] [(.int x3)] _
    refine XS.istore X0.here hx rfl (hb hby d7_28) rfl (l' := #[.val (.ref la), .val (.int 0), .val (.int 4), .val (.int x3), .val (.int 3), .val (.int 3), .val (.int 3), .val (.int x3)]) rfl ?_
    show own_S p e below s₁ m 30 #[oR la, oI 0, oI 4, oI x3, oI 3, oI 3, oI 3, oI x3] [] _
    refine XS.iload X0.here hx rfl (hb hby d7_30) rfl ?_
    show own_S p e below s₁ m 32 #[oR la, oI 0, oI 4, oI x3, oI 3, oI 3, oI 3, oI x3] [(.int x3)] _
    refine XS.iloadN X0.here hx rfl (hb hby d7_32) rfl ?_
    show own_S p e below s₁ m 33 #[oR la, oI 0, oI 4, oI x3, oI 3, oI 3, oI 3, oI x3] [(.int x3), (.int x3)] _
    refine XS.icmpYes X0.here hx rfl (pc0 := 33) (pc' := 45) rfl (hb hby d7_33) rfl (flt (own_irr : ¬ (x3 < x3))).2.1 (by decide) (by decide) ?_
    show own_S p e below s₁ m 45 #[oR la, oI 0, oI 4, oI x3, oI 3, oI 3, oI 3, oI x3] [] _
    refine XS.iload X0.here hx rfl (hb hby d7_45) rfl ?_
    show own_S p e below s₁ m 47 #[oR la, oI 0, oI 4, oI x3, oI 3, oI 3, oI 3, oI x3] [(.int x3)] _
    refine XS.iloadN X0.here hx rfl (hb hby d7_47) rfl ?_
    show own_S p e below s₁ m 48 #[oR la, oI 0, oI 4, oI x3, oI 3, oI 3, oI 3, oI x3] [(.int x3), (.int x3)] _
    refine XS.icmpYes X0.here hx rfl (pc0 := 48) (pc' := 60) rfl (hb hby d7_48) rfl (flt (own_irr : ¬ (x3 < x3))).2.2.2 (by decide) (by decide) ?_
    show own_S p e below s₁ m 60 #[oR la, oI 0, oI 4, oI x3, oI 3, oI 3, oI 3, oI x3] [] _
    refine XS.iload X0.here hx rfl (hb hby d7_60) rfl ?_
    show own_S p e below s₁ m 62 #[oR la, oI 0, oI 4, oI x3, oI 3, oI 3, oI 3, oI x3] [(.int 3)] _
    exact retOut X0 hx Bd.returns rfl (Or.inl ⟨rfl, Or.inl rfl, _, rfl⟩) (hb hby d7_62) hr
  · show Q7_0_4_3 Z la x3 kk x0 x1 x2 h0 n0 _ s₁.heap _
    rw [e0]
    exact ⟨rfl, N0, rfl⟩
theorem ef7_1_2_0 (m : MethodId) (la : Addr) (x1 : Int32) : entryFrame m #[(.ref la), (.int 1), (.int 2), (.int x1)] 8 = mkF m 0 #[.val (.ref la), .val (.int 1), .val (.int 2), .val (.int x1), .unset, .unset, .unset, .unset] [] := by first | (simp [entryFrame, mkF, argsToLocals, Value.category]; done) | rfl
def Q7_1_2_0 (Z : State) (la : Addr) (x1 : Int32) (kk : ClassId) (x0 : Int32) (x2 : Int32) (x3 : Int32) (h0 : Heap) (n0 : Nat) (v : Option Value) (h : Heap) (L : List Loc) : Prop := v = some (.int 1) ∧ Fr n0 L ∧ (h = h0)
set_option maxRecDepth 65536 in
set_option maxHeartbeats 40000000 in
theorem rm7_1_2_0 (l : Launch) (Z : State) (a0 : Array Value) (hw : ∀ d ∈ tables_1, d.before a0 Z = true) (ws : List Jvm.Cond) (la : Addr) (x1 : Int32) (kk : ClassId) (x0 : Int32) (x2 : Int32) (x3 : Int32) (h0 : Heap) (n0 : Nat) (Z0 : n0 ≤ h0.size) (V_la : Arv Z h0 la kk .int (4 : Int32) [(.int x0), (.int x1), (.int x2), (.int x3)] (.int 0)) (o01 : x0 < x1) (o02 : x0 < x2) (o03 : x0 < x3) (o12 : x1 < x2) (o13 : x1 < x3) (o23 : x2 < x3) :
    MetFree l (⟨"java/util/Arrays", "binarySearch0", "([IIII)I"⟩ : MethodName) (head1 (Jvm.Cond.code (⟨"java/util/Arrays", "binarySearch0", "([IIII)I"⟩ : MethodName) jdk_65_method_59_code 8 (some .int) :: ws) ({ frames := 0, cells := 0, slots := 0, locals := 0 } : Room)) (fun a U => a = #[(.ref la), (.int 1), (.int 2), (.int x1)] ∧ Z.Warmed39 U.vm ∧ U.heap = h0) (fun _ _ _ _ _ => True) (fun _ U o U' => ∃ v L, o = .returned v ∧ Q7_1_2_0 Z la x1 kk x0 x2 x3 h0 n0 v U'.heap L ∧ FrameEnd U o U' L ({ frames := 0, cells := 0, slots := 0, locals := 0 } : Room).cells ({ frames := 0, cells := 0, slots := 0, locals := 0 } : Room).slots) := by
  refine MetFree.of_bodySF (plainFor_of_name pn1) hisR ?_
  intro p e s m args below meth c s₁ Bd hml0 hP hK
  obtain ⟨rfl, hZ, hh⟩ := hP
  have hx := Bd.exec
  have hby := Bd.bytes
  have hml : c.maxLocals = 8 := hml0
  have hown : s.vm.findClass "java/util/Arrays" = some m.cls := findClass_of_methodNamed Bd.named
  have hnm := (name_of_methodNamed Bd.named Bd.method).1
  have X0 : Stand p l e ({ frames := 0, cells := 0, slots := 0, locals := 0 } : Room) s m #[(.ref la), (.int 1), (.int 2), (.int x1)] below meth c s₁ [] 0 0 := Stand.of_body Bd
  have e0 : s₁.heap = h0 := by rw [← hh, Bd.state]; rfl
  have N0 := Fr.nil n0
  have pre0 : ∀ t, Steps p.tables e below (s₁.setTop (mkF m 0 #[.val (.ref la), .val (.int 1), .val (.int 2), .val (.int x1), .unset, .unset, .unset, .unset] [])) t → Steps p.tables e below (s₁.setTop (entryFrame m #[(.ref la), (.int 1), (.int 2), (.int x1)] 8)) t := fun t k => castTop (ef7_1_2_0 m la x1) k
  obtain ⟨cl101, Ar101, qk101, Sz101, Nz101, Hh101, Gg101⟩ := id V_la
  have hin101 : ¬ ((1 : Int32) < 0 ∨ cl101.slots.size ≤ ((1 : Int32)).toNatClampNeg) := inb_of Sz101 ⟨by decide, by decide⟩
  have hat101 : cl101.slots[((1 : Int32)).toNatClampNeg]? = some (.int x1) := Has.at Hh101 hin101 rfl
  obtain ⟨fs, hr, hrun, hended, hW, hsame⟩ := X0.leave (v := some (.int 1)) (fun h => by rw [Bd.returns] at h; cases h)
  refine ⟨_, _, pre0 _ ?_, hrun, hended, _, _, rfl, ?_, ⟨_, rfl⟩, hW, hsame.mono (by decide) (by decide)⟩
  · show own_S p e below s₁ m 0 #[oR la, oI 1, oI 2, oI x1, oU, oU, oU, oU] [] _
    refine XS.iloadN X0.here hx rfl (hb hby d7_0) rfl ?_
    show own_S p e below s₁ m 1 #[oR la, oI 1, oI 2, oI x1, oU, oU, oU, oU] [(.int 1)] _
    refine XS.istore X0.here hx rfl (hb hby d7_1) rfl (l' := #[.val (.ref la), .val (.int 1), .val (.int 2), .val (.int x1), .val (.int 1), .unset, .unset, .unset]) rfl ?_
    show own_S p e below s₁ m 3 #[oR la, oI 1, oI 2, oI x1, oI 1, oU, oU, oU] [] _
    refine XS.iloadN X0.here hx rfl (hb hby d7_3) rfl ?_
    show own_S p e below s₁ m 4 #[oR la, oI 1, oI 2, oI x1, oI 1, oU, oU, oU] [(.int 2)] _
    refine XS.iconst X0.here hx rfl (hb hby d7_4) ?_
    show own_S p e below s₁ m 5 #[oR la, oI 1, oI 2, oI x1, oI 1, oU, oU, oU] [(.int 1), (.int 2)] _
    refine XS.isub X0.here hx rfl (hb hby d7_5) rfl ?_
    show own_S p e below s₁ m 6 #[oR la, oI 1, oI 2, oI x1, oI 1, oU, oU, oU] [(.int ((2 : Int32) - (1 : Int32)))] _
    refine reI (by decide : ((2 : Int32) - (1 : Int32)) = (1 : Int32)) ?_
    show own_S p e below s₁ m 6 #[oR la, oI 1, oI 2, oI x1, oI 1, oU, oU, oU] [(.int 1)] _
    refine XS.istore X0.here hx rfl (hb hby d7_6) rfl (l' := #[.val (.ref la), .val (.int 1), .val (.int 2), .val (.int x1), .val (.int 1), .val (.int 1), .unset, .unset]) rfl ?_
    show own_S p e below s₁ m 8 #[oR la, oI 1, oI 2, oI x1, oI 1, oI 1, oU, oU] [] _
    refine XS.iload X0.here hx rfl (hb hby d7_8) rfl ?_
    show own_S p e below s₁ m 10 #[oR la, oI 1, oI 2, oI x1, oI 1, oI 1, oU, oU] [(.int 1)] _
    refine XS.iload X0.here hx rfl (hb hby d7_10) rfl ?_
    show own_S p e below s₁ m 12 #[oR la, oI 1, oI 2, oI x1, oI 1, oI 1, oU, oU] [(.int 1), (.int 1)] _
    refine XS.icmpNo X0.here hx rfl (hb hby d7_12) rfl (flt (by decide : ¬ ((1 : Int32) < (1 : Int32)))).2.2.1 ?_
    show own_S p e below s₁ m 15 #[oR la, oI 1, oI 2, oI x1, oI 1, oI 1, oU, oU] [] _
    refine XS.iload X0.here hx rfl (hb hby d7_15) rfl ?_
    show own_S p e below s₁ m 17 #[oR la, oI 1, oI 2, oI x1, oI 1, oI 1, oU, oU] [(.int 1)] _
    refine XS.iload X0.here hx rfl (hb hby d7_17) rfl ?_
    show own_S p e below s₁ m 19 #[oR la, oI 1, oI 2, oI x1, oI 1, oI 1, oU, oU] [(.int 1), (.int 1)] _
    refine XS.iadd X0.here hx rfl (hb hby d7_19) rfl ?_
    show own_S p e below s₁ m 20 #[oR la, oI 1, oI 2, oI x1, oI 1, oI 1, oU, oU] [(.int ((1 : Int32) + (1 : Int32)))] _
    refine reI (by decide : ((1 : Int32) + (1 : Int32)) = (2 : Int32)) ?_
    show own_S p e below s₁ m 20 #[oR la, oI 1, oI 2, oI x1, oI 1, oI 1, oU, oU] [(.int 2)] _
    refine XS.iconst X0.here hx rfl (hb hby d7_20) ?_
    show own_S p e below s₁ m 21 #[oR la, oI 1, oI 2, oI x1, oI 1, oI 1, oU, oU] [(.int 1), (.int 2)] _
    refine XS.iushr X0.here hx rfl (hb hby d7_21) rfl ?_
    show own_S p e below s₁ m 22 #[oR la, oI 1, oI 2, oI x1, oI 1, oI 1, oU, oU] [(.int (((2 : Int32).toUInt32 >>> ((1 : Int32) &&& 31).toUInt32).toInt32))] _
    refine reI (by decide : (((2 : Int32).toUInt32 >>> ((1 : Int32) &&& 31).toUInt32).toInt32) = (1 : Int32)) ?_
    show own_S p e below s₁ m 22 #[oR la, oI 1, oI 2, oI x1, oI 1, oI 1, oU, oU] [(.int 1)] _
    refine XS.istore X0.here hx rfl (hb hby d7_22) rfl (l' := #[.val (.ref la), .val (.int 1), .val (.int 2), .val (.int x1), .val (.int 1), .val (.int 1), .val (.int 1), .unset]) rfl ?_
    show own_S p e below s₁ m 24 #[oR la, oI 1, oI 2, oI x1, oI 1, oI 1, oI 1, oU] [] _
    refine XS.aloadN X0.here hx rfl (hb hby d7_24) rfl rfl ?_
    show own_S p e below s₁ m 25 #[oR la, oI 1, oI 2, oI x1, oI 1, oI 1, oI 1, oU] [(.ref la)] _
    refine XS.iload X0.here hx rfl (hb hby d7_25) rfl ?_
    show own_S p e below s₁ m 27 #[oR la, oI 1, oI 2, oI x1, oI 1, oI 1, oI 1, oU] [(.int 1), (.ref la)] _
    refine X0.iaload hx (j := (1 : Int32)) (v := (.int x1)) (by rw [e0]; exact Ar101.1) (State.isArrayOf_alike hZ.alike Ar101.2.1) Ar101.2.2 hin101 hat101 (g := (mkF m 27 #[.val (.ref la), .val (.int 1), .val (.int 2), .val (.int x1), .val (.int 1), .val (.int 1), .val (.int 1), .unset] [(.int 1), (.ref la)])) rfl rfl (hb hby d7_27) _ ?_
    show own_S p e below s₁ m 28 #[oR la, oI 1, oI 2, oI x1, oI 1, oI 1, oI 1, oU] [(.int x1)] _
    refine XS.istore X0.here hx rfl (hb hby d7_28) rfl (l' := #[.val (.ref la), .val (.int 1), .val (.int 2), .val (.int x1), .val (.int 1), .val (.int 1), .val (.int 1), .val (.int x1)]) rfl ?_
    show own_S p e below s₁ m 30 #[oR la, oI 1, oI 2, oI x1, oI 1, oI 1, oI 1, oI x1] [] _
    refine XS.iload X0.here hx rfl (hb hby d7_30) rfl ?_
    show own_S p e below s₁ m 32 #[oR la, oI 1, oI 2, oI x1, oI 1, oI 1, oI 1, oI x1] [(.int x1)] _
    refine XS.iloadN X0.here hx rfl (hb hby d7_32) rfl ?_
    show own_S p e below s₁ m 33 #[oR la, oI 1, oI 2, oI x1, oI 1, oI 1, oI 1, oI x1] [(.int x1), (.int x1)] _
    refine XS.icmpYes X0.here hx rfl (pc0 := 33) (pc' := 45) rfl (hb hby d7_33) rfl (flt (own_irr : ¬ (x1 < x1))).2.1 (by decide) (by decide) ?_
    show own_S p e below s₁ m 45 #[oR la, oI 1, oI 2, oI x1, oI 1, oI 1, oI 1, oI x1] [] _
    refine XS.iload X0.here hx rfl (hb hby d7_45) rfl ?_
    show own_S p e below s₁ m 47 #[oR la, oI 1, oI 2, oI x1, oI 1, oI 1, oI 1, oI x1] [(.int x1)] _
    refine XS.iloadN X0.here hx rfl (hb hby d7_47) rfl ?_
    show own_S p e below s₁ m 48 #[oR la, oI 1, oI 2, oI x1, oI 1, oI 1, oI 1, oI x1] [(.int x1), (.int x1)] _
    refine XS.icmpYes X0.here hx rfl (pc0 := 48) (pc' := 60) rfl (hb hby d7_48) rfl (flt (own_irr : ¬ (x1 < x1))).2.2.2 (by decide) (by decide) ?_
    show own_S p e below s₁ m 60 #[oR la, oI 1, oI 2, oI x1, oI 1, oI 1, oI 1, oI x1] [] _
    refine XS.iload X0.here hx rfl (hb hby d7_60) rfl ?_
    show own_S p e below s₁ m 62 #[oR la, oI 1, oI 2, oI x1, oI 1, oI 1, oI 1, oI x1] [(.int 1)] _
    exact retOut X0 hx Bd.returns rfl (Or.inl ⟨rfl, Or.inl rfl, _, rfl⟩) (hb hby d7_62) hr
  · show Q7_1_2_0 Z la x1 kk x0 x2 x3 h0 n0 _ s₁.heap _
    rw [e0]
    exact ⟨rfl, N0, rfl⟩
theorem ef7_1_3_0 (m : MethodId) (la : Addr) (x1 : Int32) : entryFrame m #[(.ref la), (.int 1), (.int 3), (.int x1)] 8 = mkF m 0 #[.val (.ref la), .val (.int 1), .val (.int 3), .val (.int x1), .unset, .unset, .unset, .unset] [] := by first | (simp [entryFrame, mkF, argsToLocals, Value.category]; done) | rfl
def Q7_1_3_0 (Z : State) (la : Addr) (x1 : Int32) (kk : ClassId) (x0 : Int32) (x2 : Int32) (x3 : Int32) (h0 : Heap) (n0 : Nat) (v : Option Value) (h : Heap) (L : List Loc) : Prop := v = some (.int 1) ∧ Fr n0 L ∧ (h = h0)
set_option maxRecDepth 65536 in
set_option maxHeartbeats 40000000 in
theorem rm7_1_3_0 (l : Launch) (Z : State) (a0 : Array Value) (hw : ∀ d ∈ tables_1, d.before a0 Z = true) (ws : List Jvm.Cond) (la : Addr) (x1 : Int32) (kk : ClassId) (x0 : Int32) (x2 : Int32) (x3 : Int32) (h0 : Heap) (n0 : Nat) (Z0 : n0 ≤ h0.size) (V_la : Arv Z h0 la kk .int (4 : Int32) [(.int x0), (.int x1), (.int x2), (.int x3)] (.int 0)) (o01 : x0 < x1) (o02 : x0 < x2) (o03 : x0 < x3) (o12 : x1 < x2) (o13 : x1 < x3) (o23 : x2 < x3) :
    MetFree l (⟨"java/util/Arrays", "binarySearch0", "([IIII)I"⟩ : MethodName) (head1 (Jvm.Cond.code (⟨"java/util/Arrays", "binarySearch0", "([IIII)I"⟩ : MethodName) jdk_65_method_59_code 8 (some .int) :: ws) ({ frames := 0, cells := 0, slots := 0, locals := 0 } : Room)) (fun a U => a = #[(.ref la), (.int 1), (.int 3), (.int x1)] ∧ Z.Warmed39 U.vm ∧ U.heap = h0) (fun _ _ _ _ _ => True) (fun _ U o U' => ∃ v L, o = .returned v ∧ Q7_1_3_0 Z la x1 kk x0 x2 x3 h0 n0 v U'.heap L ∧ FrameEnd U o U' L ({ frames := 0, cells := 0, slots := 0, locals := 0 } : Room).cells ({ frames := 0, cells := 0, slots := 0, locals := 0 } : Room).slots) := by
  refine MetFree.of_bodySF (plainFor_of_name pn1) hisR ?_
  intro p e s m args below meth c s₁ Bd hml0 hP hK
  obtain ⟨rfl, hZ, hh⟩ := hP
  have hx := Bd.exec
  have hby := Bd.bytes
  have hml : c.maxLocals = 8 := hml0
  have hown : s.vm.findClass "java/util/Arrays" = some m.cls := findClass_of_methodNamed Bd.named
  have hnm := (name_of_methodNamed Bd.named Bd.method).1
  have X0 : Stand p l e ({ frames := 0, cells := 0, slots := 0, locals := 0 } : Room) s m #[(.ref la), (.int 1), (.int 3), (.int x1)] below meth c s₁ [] 0 0 := Stand.of_body Bd
  have e0 : s₁.heap = h0 := by rw [← hh, Bd.state]; rfl
  have N0 := Fr.nil n0
  have pre0 : ∀ t, Steps p.tables e below (s₁.setTop (mkF m 0 #[.val (.ref la), .val (.int 1), .val (.int 3), .val (.int x1), .unset, .unset, .unset, .unset] [])) t → Steps p.tables e below (s₁.setTop (entryFrame m #[(.ref la), (.int 1), (.int 3), (.int x1)] 8)) t := fun t k => castTop (ef7_1_3_0 m la x1) k
  obtain ⟨cl101, Ar101, qk101, Sz101, Nz101, Hh101, Gg101⟩ := id V_la
  have hin101 : ¬ ((1 : Int32) < 0 ∨ cl101.slots.size ≤ ((1 : Int32)).toNatClampNeg) := inb_of Sz101 ⟨by decide, by decide⟩
  have hat101 : cl101.slots[((1 : Int32)).toNatClampNeg]? = some (.int x1) := Has.at Hh101 hin101 rfl
  obtain ⟨fs, hr, hrun, hended, hW, hsame⟩ := X0.leave (v := some (.int 1)) (fun h => by rw [Bd.returns] at h; cases h)
  refine ⟨_, _, pre0 _ ?_, hrun, hended, _, _, rfl, ?_, ⟨_, rfl⟩, hW, hsame.mono (by decide) (by decide)⟩
  · show own_S p e below s₁ m 0 #[oR la, oI 1, oI 3, oI x1, oU, oU, oU, oU] [] _
    refine XS.iloadN X0.here hx rfl (hb hby d7_0) rfl ?_
    show own_S p e below s₁ m 1 #[oR la, oI 1, oI 3, oI x1, oU, oU, oU, oU] [(.int 1)] _
    refine XS.istore X0.here hx rfl (hb hby d7_1) rfl (l' := #[.val (.ref la), .val (.int 1), .val (.int 3), .val (.int x1), .val (.int 1), .unset, .unset, .unset]) rfl ?_
    show own_S p e below s₁ m 3 #[oR la, oI 1, oI 3, oI x1, oI 1, oU, oU, oU] [] _
    refine XS.iloadN X0.here hx rfl (hb hby d7_3) rfl ?_
    show own_S p e below s₁ m 4 #[oR la, oI 1, oI 3, oI x1, oI 1, oU, oU, oU] [(.int 3)] _
    refine XS.iconst X0.here hx rfl (hb hby d7_4) ?_
    show own_S p e below s₁ m 5 #[oR la, oI 1, oI 3, oI x1, oI 1, oU, oU, oU] [(.int 1), (.int 3)] _
    refine XS.isub X0.here hx rfl (hb hby d7_5) rfl ?_
    show own_S p e below s₁ m 6 #[oR la, oI 1, oI 3, oI x1, oI 1, oU, oU, oU] [(.int ((3 : Int32) - (1 : Int32)))] _
    refine reI (by decide : ((3 : Int32) - (1 : Int32)) = (2 : Int32)) ?_
    show own_S p e below s₁ m 6 #[oR la, oI 1, oI 3, oI x1, oI 1, oU, oU, oU] [(.int 2)] _
    refine XS.istore X0.here hx rfl (hb hby d7_6) rfl (l' := #[.val (.ref la), .val (.int 1), .val (.int 3), .val (.int x1), .val (.int 1), .val (.int 2), .unset, .unset]) rfl ?_
    show own_S p e below s₁ m 8 #[oR la, oI 1, oI 3, oI x1, oI 1, oI 2, oU, oU] [] _
    refine XS.iload X0.here hx rfl (hb hby d7_8) rfl ?_
    show own_S p e below s₁ m 10 #[oR la, oI 1, oI 3, oI x1, oI 1, oI 2, oU, oU] [(.int 1)] _
    refine XS.iload X0.here hx rfl (hb hby d7_10) rfl ?_
    show own_S p e below s₁ m 12 #[oR la, oI 1, oI 3, oI x1, oI 1, oI 2, oU, oU] [(.int 2), (.int 1)] _
    refine XS.icmpNo X0.here hx rfl (hb hby d7_12) rfl (flt (by decide : ¬ ((2 : Int32) < (1 : Int32)))).2.2.1 ?_
    show own_S p e below s₁ m 15 #[oR la, oI 1, oI 3, oI x1, oI 1, oI 2, oU, oU] [] _
    refine XS.iload X0.here hx rfl (hb hby d7_15) rfl ?_
    show own_S p e below s₁ m 17 #[oR la, oI 1, oI 3, oI x1, oI 1, oI 2, oU, oU] [(.int 1)] _
    refine XS.iload X0.here hx rfl (hb hby d7_17) rfl ?_
    show own_S p e below s₁ m 19 #[oR la, oI 1, oI 3, oI x1, oI 1, oI 2, oU, oU] [(.int 2), (.int 1)] _
    refine XS.iadd X0.here hx rfl (hb hby d7_19) rfl ?_
    show own_S p e below s₁ m 20 #[oR la, oI 1, oI 3, oI x1, oI 1, oI 2, oU, oU] [(.int ((1 : Int32) + (2 : Int32)))] _
    refine reI (by decide : ((1 : Int32) + (2 : Int32)) = (3 : Int32)) ?_
    show own_S p e below s₁ m 20 #[oR la, oI 1, oI 3, oI x1, oI 1, oI 2, oU, oU] [(.int 3)] _
    refine XS.iconst X0.here hx rfl (hb hby d7_20) ?_
    show own_S p e below s₁ m 21 #[oR la, oI 1, oI 3, oI x1, oI 1, oI 2, oU, oU] [(.int 1), (.int 3)] _
    refine XS.iushr X0.here hx rfl (hb hby d7_21) rfl ?_
    show own_S p e below s₁ m 22 #[oR la, oI 1, oI 3, oI x1, oI 1, oI 2, oU, oU] [(.int (((3 : Int32).toUInt32 >>> ((1 : Int32) &&& 31).toUInt32).toInt32))] _
    refine reI (by decide : (((3 : Int32).toUInt32 >>> ((1 : Int32) &&& 31).toUInt32).toInt32) = (1 : Int32)) ?_
    show own_S p e below s₁ m 22 #[oR la, oI 1, oI 3, oI x1, oI 1, oI 2, oU, oU] [(.int 1)] _
    refine XS.istore X0.here hx rfl (hb hby d7_22) rfl (l' := #[.val (.ref la), .val (.int 1), .val (.int 3), .val (.int x1), .val (.int 1), .val (.int 2), .val (.int 1), .unset]) rfl ?_
    show own_S p e below s₁ m 24 #[oR la, oI 1, oI 3, oI x1, oI 1, oI 2, oI 1, oU] [] _
    refine XS.aloadN X0.here hx rfl (hb hby d7_24) rfl rfl ?_
    show own_S p e below s₁ m 25 #[oR la, oI 1, oI 3, oI x1, oI 1, oI 2, oI 1, oU] [(.ref la)] _
    refine XS.iload X0.here hx rfl (hb hby d7_25) rfl ?_
    show own_S p e below s₁ m 27 #[oR la, oI 1, oI 3, oI x1, oI 1, oI 2, oI 1, oU] [(.int 1), (.ref la)] _
    refine X0.iaload hx (j := (1 : Int32)) (v := (.int x1)) (by rw [e0]; exact Ar101.1) (State.isArrayOf_alike hZ.alike Ar101.2.1) Ar101.2.2 hin101 hat101 (g := (mkF m 27 #[.val (.ref la), .val (.int 1), .val (.int 3), .val (.int x1), .val (.int 1), .val (.int 2), .val (.int 1), .unset] [(.int 1), (.ref la)])) rfl rfl (hb hby d7_27) _ ?_
    show own_S p e below s₁ m 28 #[oR la, oI 1, oI 3, oI x1, oI 1, oI 2, oI 1, oU] [(.int x1)] _
    refine XS.istore X0.here hx rfl (hb hby d7_28) rfl (l' := #[.val (.ref la), .val (.int 1), .val (.int 3), .val (.int x1), .val (.int 1), .val (.int 2), .val (.int 1), .val (.int x1)]) rfl ?_
    show own_S p e below s₁ m 30 #[oR la, oI 1, oI 3, oI x1, oI 1, oI 2, oI 1, oI x1] [] _
    refine XS.iload X0.here hx rfl (hb hby d7_30) rfl ?_
    show own_S p e below s₁ m 32 #[oR la, oI 1, oI 3, oI x1, oI 1, oI 2, oI 1, oI x1] [(.int x1)] _
    refine XS.iloadN X0.here hx rfl (hb hby d7_32) rfl ?_
    show own_S p e below s₁ m 33 #[oR la, oI 1, oI 3, oI x1, oI 1, oI 2, oI 1, oI x1] [(.int x1), (.int x1)] _
    refine XS.icmpYes X0.here hx rfl (pc0 := 33) (pc' := 45) rfl (hb hby d7_33) rfl (flt (own_irr : ¬ (x1 < x1))).2.1 (by decide) (by decide) ?_
    show own_S p e below s₁ m 45 #[oR la, oI 1, oI 3, oI x1, oI 1, oI 2, oI 1, oI x1] [] _
    refine XS.iload X0.here hx rfl (hb hby d7_45) rfl ?_
    show own_S p e below s₁ m 47 #[oR la, oI 1, oI 3, oI x1, oI 1, oI 2, oI 1, oI x1] [(.int x1)] _
    refine XS.iloadN X0.here hx rfl (hb hby d7_47) rfl ?_
    show own_S p e below s₁ m 48 #[oR la, oI 1, oI 3, oI x1, oI 1, oI 2, oI 1, oI x1] [(.int x1), (.int x1)] _
    refine XS.icmpYes X0.here hx rfl (pc0 := 48) (pc' := 60) rfl (hb hby d7_48) rfl (flt (own_irr : ¬ (x1 < x1))).2.2.2 (by decide) (by decide) ?_
    show own_S p e below s₁ m 60 #[oR la, oI 1, oI 3, oI x1, oI 1, oI 2, oI 1, oI x1] [] _
    refine XS.iload X0.here hx rfl (hb hby d7_60) rfl ?_
    show own_S p e below s₁ m 62 #[oR la, oI 1, oI 3, oI x1, oI 1, oI 2, oI 1, oI x1] [(.int 1)] _
    exact retOut X0 hx Bd.returns rfl (Or.inl ⟨rfl, Or.inl rfl, _, rfl⟩) (hb hby d7_62) hr
  · show Q7_1_3_0 Z la x1 kk x0 x2 x3 h0 n0 _ s₁.heap _
    rw [e0]
    exact ⟨rfl, N0, rfl⟩
theorem ef7_1_3_1 (m : MethodId) (la : Addr) (x2 : Int32) : entryFrame m #[(.ref la), (.int 1), (.int 3), (.int x2)] 8 = mkF m 0 #[.val (.ref la), .val (.int 1), .val (.int 3), .val (.int x2), .unset, .unset, .unset, .unset] [] := by first | (simp [entryFrame, mkF, argsToLocals, Value.category]; done) | rfl
def Q7_1_3_1 (Z : State) (la : Addr) (x2 : Int32) (kk : ClassId) (x0 : Int32) (x1 : Int32) (x3 : Int32) (h0 : Heap) (n0 : Nat) (v : Option Value) (h : Heap) (L : List Loc) : Prop := v = some (.int 2) ∧ Fr n0 L ∧ (h = h0)
set_option maxRecDepth 65536 in
set_option maxHeartbeats 40000000 in
theorem rm7_1_3_1 (l : Launch) (Z : State) (a0 : Array Value) (hw : ∀ d ∈ tables_1, d.before a0 Z = true) (ws : List Jvm.Cond) (la : Addr) (x2 : Int32) (kk : ClassId) (x0 : Int32) (x1 : Int32) (x3 : Int32) (h0 : Heap) (n0 : Nat) (Z0 : n0 ≤ h0.size) (V_la : Arv Z h0 la kk .int (4 : Int32) [(.int x0), (.int x1), (.int x2), (.int x3)] (.int 0)) (o01 : x0 < x1) (o02 : x0 < x2) (o03 : x0 < x3) (o12 : x1 < x2) (o13 : x1 < x3) (o23 : x2 < x3) :
    MetFree l (⟨"java/util/Arrays", "binarySearch0", "([IIII)I"⟩ : MethodName) (head1 (Jvm.Cond.code (⟨"java/util/Arrays", "binarySearch0", "([IIII)I"⟩ : MethodName) jdk_65_method_59_code 8 (some .int) :: ws) ({ frames := 0, cells := 0, slots := 0, locals := 0 } : Room)) (fun a U => a = #[(.ref la), (.int 1), (.int 3), (.int x2)] ∧ Z.Warmed39 U.vm ∧ U.heap = h0) (fun _ _ _ _ _ => True) (fun _ U o U' => ∃ v L, o = .returned v ∧ Q7_1_3_1 Z la x2 kk x0 x1 x3 h0 n0 v U'.heap L ∧ FrameEnd U o U' L ({ frames := 0, cells := 0, slots := 0, locals := 0 } : Room).cells ({ frames := 0, cells := 0, slots := 0, locals := 0 } : Room).slots) := by
  refine MetFree.of_bodySF (plainFor_of_name pn1) hisR ?_
  intro p e s m args below meth c s₁ Bd hml0 hP hK
  obtain ⟨rfl, hZ, hh⟩ := hP
  have hx := Bd.exec
  have hby := Bd.bytes
  have hml : c.maxLocals = 8 := hml0
  have hown : s.vm.findClass "java/util/Arrays" = some m.cls := findClass_of_methodNamed Bd.named
  have hnm := (name_of_methodNamed Bd.named Bd.method).1
  have X0 : Stand p l e ({ frames := 0, cells := 0, slots := 0, locals := 0 } : Room) s m #[(.ref la), (.int 1), (.int 3), (.int x2)] below meth c s₁ [] 0 0 := Stand.of_body Bd
  have e0 : s₁.heap = h0 := by rw [← hh, Bd.state]; rfl
  have N0 := Fr.nil n0
  have pre0 : ∀ t, Steps p.tables e below (s₁.setTop (mkF m 0 #[.val (.ref la), .val (.int 1), .val (.int 3), .val (.int x2), .unset, .unset, .unset, .unset] [])) t → Steps p.tables e below (s₁.setTop (entryFrame m #[(.ref la), (.int 1), (.int 3), (.int x2)] 8)) t := fun t k => castTop (ef7_1_3_1 m la x2) k
  obtain ⟨cl101, Ar101, qk101, Sz101, Nz101, Hh101, Gg101⟩ := id V_la
  have hin101 : ¬ ((1 : Int32) < 0 ∨ cl101.slots.size ≤ ((1 : Int32)).toNatClampNeg) := inb_of Sz101 ⟨by decide, by decide⟩
  have hat101 : cl101.slots[((1 : Int32)).toNatClampNeg]? = some (.int x1) := Has.at Hh101 hin101 rfl
  obtain ⟨cl102, Ar102, qk102, Sz102, Nz102, Hh102, Gg102⟩ := id V_la
  have hin102 : ¬ ((2 : Int32) < 0 ∨ cl102.slots.size ≤ ((2 : Int32)).toNatClampNeg) := inb_of Sz102 ⟨by decide, by decide⟩
  have hat102 : cl102.slots[((2 : Int32)).toNatClampNeg]? = some (.int x2) := Has.at Hh102 hin102 rfl
  obtain ⟨fs, hr, hrun, hended, hW, hsame⟩ := X0.leave (v := some (.int 2)) (fun h => by rw [Bd.returns] at h; cases h)
  refine ⟨_, _, pre0 _ ?_, hrun, hended, _, _, rfl, ?_, ⟨_, rfl⟩, hW, hsame.mono (by decide) (by decide)⟩
  · show own_S p e below s₁ m 0 #[oR la, oI 1, oI 3, oI x2, oU, oU, oU, oU] [] _
    refine XS.iloadN X0.here hx rfl (hb hby d7_0) rfl ?_
    show own_S p e below s₁ m 1 #[oR la, oI 1, oI 3, oI x2, oU, oU, oU, oU] [(.int 1)] _
    refine XS.istore X0.here hx rfl (hb hby d7_1) rfl (l' := #[.val (.ref la), .val (.int 1), .val (.int 3), .val (.int x2), .val (.int 1), .unset, .unset, .unset]) rfl ?_
    show own_S p e below s₁ m 3 #[oR la, oI 1, oI 3, oI x2, oI 1, oU, oU, oU] [] _
    refine XS.iloadN X0.here hx rfl (hb hby d7_3) rfl ?_
    show own_S p e below s₁ m 4 #[oR la, oI 1, oI 3, oI x2, oI 1, oU, oU, oU] [(.int 3)] _
    refine XS.iconst X0.here hx rfl (hb hby d7_4) ?_
    show own_S p e below s₁ m 5 #[oR la, oI 1, oI 3, oI x2, oI 1, oU, oU, oU] [(.int 1), (.int 3)] _
    refine XS.isub X0.here hx rfl (hb hby d7_5) rfl ?_
    show own_S p e below s₁ m 6 #[oR la, oI 1, oI 3, oI x2, oI 1, oU, oU, oU] [(.int ((3 : Int32) - (1 : Int32)))] _
    refine reI (by decide : ((3 : Int32) - (1 : Int32)) = (2 : Int32)) ?_
    show own_S p e below s₁ m 6 #[oR la, oI 1, oI 3, oI x2, oI 1, oU, oU, oU] [(.int 2)] _
    refine XS.istore X0.here hx rfl (hb hby d7_6) rfl (l' := #[.val (.ref la), .val (.int 1), .val (.int 3), .val (.int x2), .val (.int 1), .val (.int 2), .unset, .unset]) rfl ?_
    show own_S p e below s₁ m 8 #[oR la, oI 1, oI 3, oI x2, oI 1, oI 2, oU, oU] [] _
    refine XS.iload X0.here hx rfl (hb hby d7_8) rfl ?_
    show own_S p e below s₁ m 10 #[oR la, oI 1, oI 3, oI x2, oI 1, oI 2, oU, oU] [(.int 1)] _
    refine XS.iload X0.here hx rfl (hb hby d7_10) rfl ?_
    show own_S p e below s₁ m 12 #[oR la, oI 1, oI 3, oI x2, oI 1, oI 2, oU, oU] [(.int 2), (.int 1)] _
    refine XS.icmpNo X0.here hx rfl (hb hby d7_12) rfl (flt (by decide : ¬ ((2 : Int32) < (1 : Int32)))).2.2.1 ?_
    show own_S p e below s₁ m 15 #[oR la, oI 1, oI 3, oI x2, oI 1, oI 2, oU, oU] [] _
    refine XS.iload X0.here hx rfl (hb hby d7_15) rfl ?_
    show own_S p e below s₁ m 17 #[oR la, oI 1, oI 3, oI x2, oI 1, oI 2, oU, oU] [(.int 1)] _
    refine XS.iload X0.here hx rfl (hb hby d7_17) rfl ?_
    show own_S p e below s₁ m 19 #[oR la, oI 1, oI 3, oI x2, oI 1, oI 2, oU, oU] [(.int 2), (.int 1)] _
    refine XS.iadd X0.here hx rfl (hb hby d7_19) rfl ?_
    show own_S p e below s₁ m 20 #[oR la, oI 1, oI 3, oI x2, oI 1, oI 2, oU, oU] [(.int ((1 : Int32) + (2 : Int32)))] _
    refine reI (by decide : ((1 : Int32) + (2 : Int32)) = (3 : Int32)) ?_
    show own_S p e below s₁ m 20 #[oR la, oI 1, oI 3, oI x2, oI 1, oI 2, oU, oU] [(.int 3)] _
    refine XS.iconst X0.here hx rfl (hb hby d7_20) ?_
    show own_S p e below s₁ m 21 #[oR la, oI 1, oI 3, oI x2, oI 1, oI 2, oU, oU] [(.int 1), (.int 3)] _
    refine XS.iushr X0.here hx rfl (hb hby d7_21) rfl ?_
    show own_S p e below s₁ m 22 #[oR la, oI 1, oI 3, oI x2, oI 1, oI 2, oU, oU] [(.int (((3 : Int32).toUInt32 >>> ((1 : Int32) &&& 31).toUInt32).toInt32))] _
    refine reI (by decide : (((3 : Int32).toUInt32 >>> ((1 : Int32) &&& 31).toUInt32).toInt32) = (1 : Int32)) ?_
    show own_S p e below s₁ m 22 #[oR la, oI 1, oI 3, oI x2, oI 1, oI 2, oU, oU] [(.int 1)] _
    refine XS.istore X0.here hx rfl (hb hby d7_22) rfl (l' := #[.val (.ref la), .val (.int 1), .val (.int 3), .val (.int x2), .val (.int 1), .val (.int 2), .val (.int 1), .unset]) rfl ?_
    show own_S p e below s₁ m 24 #[oR la, oI 1, oI 3, oI x2, oI 1, oI 2, oI 1, oU] [] _
    refine XS.aloadN X0.here hx rfl (hb hby d7_24) rfl rfl ?_
    show own_S p e below s₁ m 25 #[oR la, oI 1, oI 3, oI x2, oI 1, oI 2, oI 1, oU] [(.ref la)] _
    refine XS.iload X0.here hx rfl (hb hby d7_25) rfl ?_
    show own_S p e below s₁ m 27 #[oR la, oI 1, oI 3, oI x2, oI 1, oI 2, oI 1, oU] [(.int 1), (.ref la)] _
    refine X0.iaload hx (j := (1 : Int32)) (v := (.int x1)) (by rw [e0]; exact Ar101.1) (State.isArrayOf_alike hZ.alike Ar101.2.1) Ar101.2.2 hin101 hat101 (g := (mkF m 27 #[.val (.ref la), .val (.int 1), .val (.int 3), .val (.int x2), .val (.int 1), .val (.int 2), .val (.int 1), .unset] [(.int 1), (.ref la)])) rfl rfl (hb hby d7_27) _ ?_
    show own_S p e below s₁ m 28 #[oR la, oI 1, oI 3, oI x2, oI 1, oI 2, oI 1, oU] [(.int x1)] _
    refine XS.istore X0.here hx rfl (hb hby d7_28) rfl (l' := #[.val (.ref la), .val (.int 1), .val (.int 3), .val (.int x2), .val (.int 1), .val (.int 2), .val (.int 1), .val (.int x1)]) rfl ?_
    show own_S p e below s₁ m 30 #[oR la, oI 1, oI 3, oI x2, oI 1, oI 2, oI 1, oI x1] [] _
    refine XS.iload X0.here hx rfl (hb hby d7_30) rfl ?_
    show own_S p e below s₁ m 32 #[oR la, oI 1, oI 3, oI x2, oI 1, oI 2, oI 1, oI x1] [(.int x1)] _
    refine XS.iloadN X0.here hx rfl (hb hby d7_32) rfl ?_
    show own_S p e below s₁ m 33 #[oR la, oI 1, oI 3, oI x2, oI 1, oI 2, oI 1, oI x1] [(.int x2), (.int x1)] _
    refine XS.icmpNo X0.here hx rfl (hb hby d7_33) rfl (tlt (o12 : x1 < x2)).2.1 ?_
    show own_S p e below s₁ m 36 #[oR la, oI 1, oI 3, oI x2, oI 1, oI 2, oI 1, oI x1] [] _
    refine XS.iload X0.here hx rfl (hb hby d7_36) rfl ?_
    show own_S p e below s₁ m 38 #[oR la, oI 1, oI 3, oI x2, oI 1, oI 2, oI 1, oI x1] [(.int 1)] _
    refine XS.iconst X0.here hx rfl (hb hby d7_38) ?_
    show own_S p e below s₁ m 39 #[oR la, oI 1, oI 3, oI x2, oI 1, oI 2, oI 1, oI x1] [(.int 1), (.int 1)] _
    refine XS.iadd X0.here hx rfl (hb hby d7_39) rfl ?_
    show own_S p e below s₁ m 40 #[oR la, oI 1, oI 3, oI x2, oI 1, oI 2, oI 1, oI x1] [(.int ((1 : Int32) + (1 : Int32)))] _
    refine reI (by decide : ((1 : Int32) + (1 : Int32)) = (2 : Int32)) ?_
    show own_S p e below s₁ m 40 #[oR la, oI 1, oI 3, oI x2, oI 1, oI 2, oI 1, oI x1] [(.int 2)] _
    refine XS.istore X0.here hx rfl (hb hby d7_40) rfl (l' := #[.val (.ref la), .val (.int 1), .val (.int 3), .val (.int x2), .val (.int 2), .val (.int 2), .val (.int 1), .val (.int x1)]) rfl ?_
    show own_S p e below s₁ m 42 #[oR la, oI 1, oI 3, oI x2, oI 2, oI 2, oI 1, oI x1] [] _
    refine XS.goto X0.here hx rfl (pc0 := 42) (pc' := 63) rfl (hb hby d7_42) (by decide) (by decide) ?_
    show own_S p e below s₁ m 63 #[oR la, oI 1, oI 3, oI x2, oI 2, oI 2, oI 1, oI x1] [] _
    refine XS.goto X0.here hx rfl (pc0 := 63) (pc' := 8) rfl (hb hby d7_63) (by decide) (by decide) ?_
    show own_S p e below s₁ m 8 #[oR la, oI 1, oI 3, oI x2, oI 2, oI 2, oI 1, oI x1] [] _
    refine XS.iload X0.here hx rfl (hb hby d7_8) rfl ?_
    show own_S p e below s₁ m 10 #[oR la, oI 1, oI 3, oI x2, oI 2, oI 2, oI 1, oI x1] [(.int 2)] _
    refine XS.iload X0.here hx rfl (hb hby d7_10) rfl ?_
    show own_S p e below s₁ m 12 #[oR la, oI 1, oI 3, oI x2, oI 2, oI 2, oI 1, oI x1] [(.int 2), (.int 2)] _
    refine XS.icmpNo X0.here hx rfl (hb hby d7_12) rfl (flt (by decide : ¬ ((2 : Int32) < (2 : Int32)))).2.2.1 ?_
    show own_S p e below s₁ m 15 #[oR la, oI 1, oI 3, oI x2, oI 2, oI 2, oI 1, oI x1] [] _
    refine XS.iload X0.here hx rfl (hb hby d7_15) rfl ?_
    show own_S p e below s₁ m 17 #[oR la, oI 1, oI 3, oI x2, oI 2, oI 2, oI 1, oI x1] [(.int 2)] _
    refine XS.iload X0.here hx rfl (hb hby d7_17) rfl ?_
    show own_S p e below s₁ m 19 #[oR la, oI 1, oI 3, oI x2, oI 2, oI 2, oI 1, oI x1] [(.int 2), (.int 2)] _
    refine XS.iadd X0.here hx rfl (hb hby d7_19) rfl ?_
    show own_S p e below s₁ m 20 #[oR la, oI 1, oI 3, oI x2, oI 2, oI 2, oI 1, oI x1] [(.int ((2 : Int32) + (2 : Int32)))] _
    refine reI (by decide : ((2 : Int32) + (2 : Int32)) = (4 : Int32)) ?_
    show own_S p e below s₁ m 20 #[oR la, oI 1, oI 3, oI x2, oI 2, oI 2, oI 1, oI x1] [(.int 4)] _
    refine XS.iconst X0.here hx rfl (hb hby d7_20) ?_
    show own_S p e below s₁ m 21 #[oR la, oI 1, oI 3, oI x2, oI 2, oI 2, oI 1, oI x1] [(.int 1), (.int 4)] _
    refine XS.iushr X0.here hx rfl (hb hby d7_21) rfl ?_
    show own_S p e below s₁ m 22 #[oR la, oI 1, oI 3, oI x2, oI 2, oI 2, oI 1, oI x1] [(.int (((4 : Int32).toUInt32 >>> ((1 : Int32) &&& 31).toUInt32).toInt32))] _
    refine reI (by decide : (((4 : Int32).toUInt32 >>> ((1 : Int32) &&& 31).toUInt32).toInt32) = (2 : Int32)) ?_
    show own_S p e below s₁ m 22 #[oR la, oI 1, oI 3, oI x2, oI 2, oI 2, oI 1, oI x1] [(.int 2)] _
    refine XS.istore X0.here hx rfl (hb hby d7_22) rfl (l' := #[.val (.ref la), .val (.int 1), .val (.int 3), .val (.int x2), .val (.int 2), .val (.int 2), .val (.int 2), .val (.int x1)]) rfl ?_
    show own_S p e below s₁ m 24 #[oR la, oI 1, oI 3, oI x2, oI 2, oI 2, oI 2, oI x1] [] _
    refine XS.aloadN X0.here hx rfl (hb hby d7_24) rfl rfl ?_
    show own_S p e below s₁ m 25 #[oR la, oI 1, oI 3, oI x2, oI 2, oI 2, oI 2, oI x1] [(.ref la)] _
    refine XS.iload X0.here hx rfl (hb hby d7_25) rfl ?_
    show own_S p e below s₁ m 27 #[oR la, oI 1, oI 3, oI x2, oI 2, oI 2, oI 2, oI x1] [(.int 2), (.ref la)] _
    refine X0.iaload hx (j := (2 : Int32)) (v := (.int x2)) (by rw [e0]; exact Ar102.1) (State.isArrayOf_alike hZ.alike Ar102.2.1) Ar102.2.2 hin102 hat102 (g := (mkF m 27 #[.val (.ref la), .val (.int 1), .val (.int 3), .val (.int x2), .val (.int 2), .val (.int 2), .val (.int 2), .val (.int x1)] [(.int 2), (.ref la)])) rfl rfl (hb hby d7_27) _ ?_
    show own_S p e below s₁ m 28 #[oR la, oI 1, oI 3, oI x2, oI 2, oI 2, oI 2, oI x1] [(.int x2)] _
    refine XS.istore X0.here hx rfl (hb hby d7_28) rfl (l' := #[.val (.ref la), .val (.int 1), .val (.int 3), .val (.int x2), .val (.int 2), .val (.int 2), .val (.int 2), .val (.int x2)]) rfl ?_
    show own_S p e below s₁ m 30 #[oR la, oI 1, oI 3, oI x2, oI 2, oI 2, oI 2, oI x2] [] _
    refine XS.iload X0.here hx rfl (hb hby d7_30) rfl ?_
    show own_S p e below s₁ m 32 #[oR la, oI 1, oI 3, oI x2, oI 2, oI 2, oI 2, oI x2] [(.int x2)] _
    refine XS.iloadN X0.here hx rfl (hb hby d7_32) rfl ?_
    show own_S p e below s₁ m 33 #[oR la, oI 1, oI 3, oI x2, oI 2, oI 2, oI 2, oI x2] [(.int x2), (.int x2)] _
    refine XS.icmpYes X0.here hx rfl (pc0 := 33) (pc' := 45) rfl (hb hby d7_33) rfl (flt (own_irr : ¬ (x2 < x2))).2.1 (by decide) (by decide) ?_
    show own_S p e below s₁ m 45 #[oR la, oI 1, oI 3, oI x2, oI 2, oI 2, oI 2, oI x2] [] _
    refine XS.iload X0.here hx rfl (hb hby d7_45) rfl ?_
    show own_S p e below s₁ m 47 #[oR la, oI 1, oI 3, oI x2, oI 2, oI 2, oI 2, oI x2] [(.int x2)] _
    refine XS.iloadN X0.here hx rfl (hb hby d7_47) rfl ?_
    show own_S p e below s₁ m 48 #[oR la, oI 1, oI 3, oI x2, oI 2, oI 2, oI 2, oI x2] [(.int x2), (.int x2)] _
    refine XS.icmpYes X0.here hx rfl (pc0 := 48) (pc' := 60) rfl (hb hby d7_48) rfl (flt (own_irr : ¬ (x2 < x2))).2.2.2 (by decide) (by decide) ?_
    show own_S p e below s₁ m 60 #[oR la, oI 1, oI 3, oI x2, oI 2, oI 2, oI 2, oI x2] [] _
    refine XS.iload X0.here hx rfl (hb hby d7_60) rfl ?_
    show own_S p e below s₁ m 62 #[oR la, oI 1, oI 3, oI x2, oI 2, oI 2, oI 2, oI x2] [(.int 2)] _
    exact retOut X0 hx Bd.returns rfl (Or.inl ⟨rfl, Or.inl rfl, _, rfl⟩) (hb hby d7_62) hr
  · show Q7_1_3_1 Z la x2 kk x0 x1 x3 h0 n0 _ s₁.heap _
    rw [e0]
    exact ⟨rfl, N0, rfl⟩
theorem ef7_1_4_0 (m : MethodId) (la : Addr) (x1 : Int32) : entryFrame m #[(.ref la), (.int 1), (.int 4), (.int x1)] 8 = mkF m 0 #[.val (.ref la), .val (.int 1), .val (.int 4), .val (.int x1), .unset, .unset, .unset, .unset] [] := by first | (simp [entryFrame, mkF, argsToLocals, Value.category]; done) | rfl
def Q7_1_4_0 (Z : State) (la : Addr) (x1 : Int32) (kk : ClassId) (x0 : Int32) (x2 : Int32) (x3 : Int32) (h0 : Heap) (n0 : Nat) (v : Option Value) (h : Heap) (L : List Loc) : Prop := v = some (.int 1) ∧ Fr n0 L ∧ (h = h0)
set_option maxRecDepth 65536 in
set_option maxHeartbeats 40000000 in
theorem rm7_1_4_0 (l : Launch) (Z : State) (a0 : Array Value) (hw : ∀ d ∈ tables_1, d.before a0 Z = true) (ws : List Jvm.Cond) (la : Addr) (x1 : Int32) (kk : ClassId) (x0 : Int32) (x2 : Int32) (x3 : Int32) (h0 : Heap) (n0 : Nat) (Z0 : n0 ≤ h0.size) (V_la : Arv Z h0 la kk .int (4 : Int32) [(.int x0), (.int x1), (.int x2), (.int x3)] (.int 0)) (o01 : x0 < x1) (o02 : x0 < x2) (o03 : x0 < x3) (o12 : x1 < x2) (o13 : x1 < x3) (o23 : x2 < x3) :
    MetFree l (⟨"java/util/Arrays", "binarySearch0", "([IIII)I"⟩ : MethodName) (head1 (Jvm.Cond.code (⟨"java/util/Arrays", "binarySearch0", "([IIII)I"⟩ : MethodName) jdk_65_method_59_code 8 (some .int) :: ws) ({ frames := 0, cells := 0, slots := 0, locals := 0 } : Room)) (fun a U => a = #[(.ref la), (.int 1), (.int 4), (.int x1)] ∧ Z.Warmed39 U.vm ∧ U.heap = h0) (fun _ _ _ _ _ => True) (fun _ U o U' => ∃ v L, o = .returned v ∧ Q7_1_4_0 Z la x1 kk x0 x2 x3 h0 n0 v U'.heap L ∧ FrameEnd U o U' L ({ frames := 0, cells := 0, slots := 0, locals := 0 } : Room).cells ({ frames := 0, cells := 0, slots := 0, locals := 0 } : Room).slots) := by
  refine MetFree.of_bodySF (plainFor_of_name pn1) hisR ?_
  intro p e s m args below meth c s₁ Bd hml0 hP hK
  obtain ⟨rfl, hZ, hh⟩ := hP
  have hx := Bd.exec
  have hby := Bd.bytes
  have hml : c.maxLocals = 8 := hml0
  have hown : s.vm.findClass "java/util/Arrays" = some m.cls := findClass_of_methodNamed Bd.named
  have hnm := (name_of_methodNamed Bd.named Bd.method).1
  have X0 : Stand p l e ({ frames := 0, cells := 0, slots := 0, locals := 0 } : Room) s m #[(.ref la), (.int 1), (.int 4), (.int x1)] below meth c s₁ [] 0 0 := Stand.of_body Bd
  have e0 : s₁.heap = h0 := by rw [← hh, Bd.state]; rfl
  have N0 := Fr.nil n0
  have pre0 : ∀ t, Steps p.tables e below (s₁.setTop (mkF m 0 #[.val (.ref la), .val (.int 1), .val (.int 4), .val (.int x1), .unset, .unset, .unset, .unset] [])) t → Steps p.tables e below (s₁.setTop (entryFrame m #[(.ref la), (.int 1), (.int 4), (.int x1)] 8)) t := fun t k => castTop (ef7_1_4_0 m la x1) k
  obtain ⟨cl101, Ar101, qk101, Sz101, Nz101, Hh101, Gg101⟩ := id V_la
  have hin101 : ¬ ((2 : Int32) < 0 ∨ cl101.slots.size ≤ ((2 : Int32)).toNatClampNeg) := inb_of Sz101 ⟨by decide, by decide⟩
  have hat101 : cl101.slots[((2 : Int32)).toNatClampNeg]? = some (.int x2) := Has.at Hh101 hin101 rfl
  obtain ⟨cl102, Ar102, qk102, Sz102, Nz102, Hh102, Gg102⟩ := id V_la
  have hin102 : ¬ ((1 : Int32) < 0 ∨ cl102.slots.size ≤ ((1 : Int32)).toNatClampNeg) := inb_of Sz102 ⟨by decide, by decide⟩
  have hat102 : cl102.slots[((1 : Int32)).toNatClampNeg]? = some (.int x1) := Has.at Hh102 hin102 rfl
  obtain ⟨fs, hr, hrun, hended, hW, hsame⟩ := X0.leave (v := some (.int 1)) (fun h => by rw [Bd.returns] at h; cases h)
  refine ⟨_, _, pre0 _ ?_, hrun, hended, _, _, rfl, ?_, ⟨_, rfl⟩, hW, hsame.mono (by decide) (by decide)⟩
  · show own_S p e below s₁ m 0 #[oR la, oI 1, oI 4, oI x1, oU, oU, oU, oU] [] _
    refine XS.iloadN X0.here hx rfl (hb hby d7_0) rfl ?_
    show own_S p e below s₁ m 1 #[oR la, oI 1, oI 4, oI x1, oU, oU, oU, oU] [(.int 1)] _
    refine XS.istore X0.here hx rfl (hb hby d7_1) rfl (l' := #[.val (.ref la), .val (.int 1), .val (.int 4), .val (.int x1), .val (.int 1), .unset, .unset, .unset]) rfl ?_
    show own_S p e below s₁ m 3 #[oR la, oI 1, oI 4, oI x1, oI 1, oU, oU, oU] [] _
    refine XS.iloadN X0.here hx rfl (hb hby d7_3) rfl ?_
    show own_S p e below s₁ m 4 #[oR la, oI 1, oI 4, oI x1, oI 1, oU, oU, oU] [(.int 4)] _
    refine XS.iconst X0.here hx rfl (hb hby d7_4) ?_
    show own_S p e below s₁ m 5 #[oR la, oI 1, oI 4, oI x1, oI 1, oU, oU, oU] [(.int 1), (.int 4)] _
    refine XS.isub X0.here hx rfl (hb hby d7_5) rfl ?_
    show own_S p e below s₁ m 6 #[oR la, oI 1, oI 4, oI x1, oI 1, oU, oU, oU] [(.int ((4 : Int32) - (1 : Int32)))] _
    refine reI (by decide : ((4 : Int32) - (1 : Int32)) = (3 : Int32)) ?_
    show own_S p e below s₁ m 6 #[oR la, oI 1, oI 4, oI x1, oI 1, oU, oU, oU] [(.int 3)] _
    refine XS.istore X0.here hx rfl (hb hby d7_6) rfl (l' := #[.val (.ref la), .val (.int 1), .val (.int 4), .val (.int x1), .val (.int 1), .val (.int 3), .unset, .unset]) rfl ?_
    show own_S p e below s₁ m 8 #[oR la, oI 1, oI 4, oI x1, oI 1, oI 3, oU, oU] [] _
    refine XS.iload X0.here hx rfl (hb hby d7_8) rfl ?_
    show own_S p e below s₁ m 10 #[oR la, oI 1, oI 4, oI x1, oI 1, oI 3, oU, oU] [(.int 1)] _
    refine XS.iload X0.here hx rfl (hb hby d7_10) rfl ?_
    show own_S p e below s₁ m 12 #[oR la, oI 1, oI 4, oI x1, oI 1, oI 3, oU, oU] [(.int 3), (.int 1)] _
    refine XS.icmpNo X0.here hx rfl (hb hby d7_12) rfl (flt (by decide : ¬ ((3 : Int32) < (1 : Int32)))).2.2.1 ?_
    show own_S p e below s₁ m 15 #[oR la, oI 1, oI 4, oI x1, oI 1, oI 3, oU, oU] [] _
    refine XS.iload X0.here hx rfl (hb hby d7_15) rfl ?_
    show own_S p e below s₁ m 17 #[oR la, oI 1, oI 4, oI x1, oI 1, oI 3, oU, oU] [(.int 1)] _
    refine XS.iload X0.here hx rfl (hb hby d7_17) rfl ?_
    show own_S p e below s₁ m 19 #[oR la, oI 1, oI 4, oI x1, oI 1, oI 3, oU, oU] [(.int 3), (.int 1)] _
    refine XS.iadd X0.here hx rfl (hb hby d7_19) rfl ?_
    show own_S p e below s₁ m 20 #[oR la, oI 1, oI 4, oI x1, oI 1, oI 3, oU, oU] [(.int ((1 : Int32) + (3 : Int32)))] _
    refine reI (by decide : ((1 : Int32) + (3 : Int32)) = (4 : Int32)) ?_
    show own_S p e below s₁ m 20 #[oR la, oI 1, oI 4, oI x1, oI 1, oI 3, oU, oU] [(.int 4)] _
    refine XS.iconst X0.here hx rfl (hb hby d7_20) ?_
    show own_S p e below s₁ m 21 #[oR la, oI 1, oI 4, oI x1, oI 1, oI 3, oU, oU] [(.int 1), (.int 4)] _
    refine XS.iushr X0.here hx rfl (hb hby d7_21) rfl ?_
    show own_S p e below s₁ m 22 #[oR la, oI 1, oI 4, oI x1, oI 1, oI 3, oU, oU] [(.int (((4 : Int32).toUInt32 >>> ((1 : Int32) &&& 31).toUInt32).toInt32))] _
    refine reI (by decide : (((4 : Int32).toUInt32 >>> ((1 : Int32) &&& 31).toUInt32).toInt32) = (2 : Int32)) ?_
    show own_S p e below s₁ m 22 #[oR la, oI 1, oI 4, oI x1, oI 1, oI 3, oU, oU] [(.int 2)] _
    refine XS.istore X0.here hx rfl (hb hby d7_22) rfl (l' := #[.val (.ref la), .val (.int 1), .val (.int 4), .val (.int x1), .val (.int 1), .val (.int 3), .val (.int 2), .unset]) rfl ?_
    show own_S p e below s₁ m 24 #[oR la, oI 1, oI 4, oI x1, oI 1, oI 3, oI 2, oU] [] _
    refine XS.aloadN X0.here hx rfl (hb hby d7_24) rfl rfl ?_
    show own_S p e below s₁ m 25 #[oR la, oI 1, oI 4, oI x1, oI 1, oI 3, oI 2, oU] [(.ref la)] _
    refine XS.iload X0.here hx rfl (hb hby d7_25) rfl ?_
    show own_S p e below s₁ m 27 #[oR la, oI 1, oI 4, oI x1, oI 1, oI 3, oI 2, oU] [(.int 2), (.ref la)] _
    refine X0.iaload hx (j := (2 : Int32)) (v := (.int x2)) (by rw [e0]; exact Ar101.1) (State.isArrayOf_alike hZ.alike Ar101.2.1) Ar101.2.2 hin101 hat101 (g := (mkF m 27 #[.val (.ref la), .val (.int 1), .val (.int 4), .val (.int x1), .val (.int 1), .val (.int 3), .val (.int 2), .unset] [(.int 2), (.ref la)])) rfl rfl (hb hby d7_27) _ ?_
    show own_S p e below s₁ m 28 #[oR la, oI 1, oI 4, oI x1, oI 1, oI 3, oI 2, oU] [(.int x2)] _
    refine XS.istore X0.here hx rfl (hb hby d7_28) rfl (l' := #[.val (.ref la), .val (.int 1), .val (.int 4), .val (.int x1), .val (.int 1), .val (.int 3), .val (.int 2), .val (.int x2)]) rfl ?_
    show own_S p e below s₁ m 30 #[oR la, oI 1, oI 4, oI x1, oI 1, oI 3, oI 2, oI x2] [] _
    refine XS.iload X0.here hx rfl (hb hby d7_30) rfl ?_
    show own_S p e below s₁ m 32 #[oR la, oI 1, oI 4, oI x1, oI 1, oI 3, oI 2, oI x2] [(.int x2)] _
    refine XS.iloadN X0.here hx rfl (hb hby d7_32) rfl ?_
    show own_S p e below s₁ m 33 #[oR la, oI 1, oI 4, oI x1, oI 1, oI 3, oI 2, oI x2] [(.int x1), (.int x2)] _
    refine XS.icmpYes X0.here hx rfl (pc0 := 33) (pc' := 45) rfl (hb hby d7_33) rfl (flt (own_asm o12 : ¬ (x2 < x1))).2.1 (by decide) (by decide) ?_
    show own_S p e below s₁ m 45 #[oR la, oI 1, oI 4, oI x1, oI 1, oI 3, oI 2, oI x2] [] _
    refine XS.iload X0.here hx rfl (hb hby d7_45) rfl ?_
    show own_S p e below s₁ m 47 #[oR la, oI 1, oI 4, oI x1, oI 1, oI 3, oI 2, oI x2] [(.int x2)] _
    refine XS.iloadN X0.here hx rfl (hb hby d7_47) rfl ?_
    show own_S p e below s₁ m 48 #[oR la, oI 1, oI 4, oI x1, oI 1, oI 3, oI 2, oI x2] [(.int x1), (.int x2)] _
    refine XS.icmpNo X0.here hx rfl (hb hby d7_48) rfl (tlt (o12 : x1 < x2)).2.2.2 ?_
    show own_S p e below s₁ m 51 #[oR la, oI 1, oI 4, oI x1, oI 1, oI 3, oI 2, oI x2] [] _
    refine XS.iload X0.here hx rfl (hb hby d7_51) rfl ?_
    show own_S p e below s₁ m 53 #[oR la, oI 1, oI 4, oI x1, oI 1, oI 3, oI 2, oI x2] [(.int 2)] _
    refine XS.iconst X0.here hx rfl (hb hby d7_53) ?_
    show own_S p e below s₁ m 54 #[oR la, oI 1, oI 4, oI x1, oI 1, oI 3, oI 2, oI x2] [(.int 1), (.int 2)] _
    refine XS.isub X0.here hx rfl (hb hby d7_54) rfl ?_
    show own_S p e below s₁ m 55 #[oR la, oI 1, oI 4, oI x1, oI 1, oI 3, oI 2, oI x2] [(.int ((2 : Int32) - (1 : Int32)))] _
    refine reI (by decide : ((2 : Int32) - (1 : Int32)) = (1 : Int32)) ?_
    show own_S p e below s₁ m 55 #[oR la, oI 1, oI 4, oI x1, oI 1, oI 3, oI 2, oI x2] [(.int 1)] _
    refine XS.istore X0.here hx rfl (hb hby d7_55) rfl (l' := #[.val (.ref la), .val (.int 1), .val (.int 4), .val (.int x1), .val (.int 1), .val (.int 1), .val (.int 2), .val (.int x2)]) rfl ?_
    show own_S p e below s₁ m 57 #[oR la, oI 1, oI 4, oI x1, oI 1, oI 1, oI 2, oI x2] [] _
    refine XS.goto X0.here hx rfl (pc0 := 57) (pc' := 63) rfl (hb hby d7_57) (by decide) (by decide) ?_
    show own_S p e below s₁ m 63 #[oR la, oI 1, oI 4, oI x1, oI 1, oI 1, oI 2, oI x2] [] _
    refine XS.goto X0.here hx rfl (pc0 := 63) (pc' := 8) rfl (hb hby d7_63) (by decide) (by decide) ?_
    show own_S p e below s₁ m 8 #[oR la, oI 1, oI 4, oI x1, oI 1, oI 1, oI 2, oI x2] [] _
    refine XS.iload X0.here hx rfl (hb hby d7_8) rfl ?_
    show own_S p e below s₁ m 10 #[oR la, oI 1, oI 4, oI x1, oI 1, oI 1, oI 2, oI x2] [(.int 1)] _
    refine XS.iload X0.here hx rfl (hb hby d7_10) rfl ?_
    show own_S p e below s₁ m 12 #[oR la, oI 1, oI 4, oI x1, oI 1, oI 1, oI 2, oI x2] [(.int 1), (.int 1)] _
    refine XS.icmpNo X0.here hx rfl (hb hby d7_12) rfl (flt (by decide : ¬ ((1 : Int32) < (1 : Int32)))).2.2.1 ?_
    show own_S p e below s₁ m 15 #[oR la, oI 1, oI 4, oI x1, oI 1, oI 1, oI 2, oI x2] [] _
    refine XS.iload X0.here hx rfl (hb hby d7_15) rfl ?_
    show own_S p e below s₁ m 17 #[oR la, oI 1, oI 4, oI x1, oI 1, oI 1, oI 2, oI x2] [(.int 1)] _
    refine XS.iload X0.here hx rfl (hb hby d7_17) rfl ?_
    show own_S p e below s₁ m 19 #[oR la, oI 1, oI 4, oI x1, oI 1, oI 1, oI 2, oI x2] [(.int 1), (.int 1)] _
    refine XS.iadd X0.here hx rfl (hb hby d7_19) rfl ?_
    show own_S p e below s₁ m 20 #[oR la, oI 1, oI 4, oI x1, oI 1, oI 1, oI 2, oI x2] [(.int ((1 : Int32) + (1 : Int32)))] _
    refine reI (by decide : ((1 : Int32) + (1 : Int32)) = (2 : Int32)) ?_
    show own_S p e below s₁ m 20 #[oR la, oI 1, oI 4, oI x1, oI 1, oI 1, oI 2, oI x2] [(.int 2)] _
    refine XS.iconst X0.here hx rfl (hb hby d7_20) ?_
    show own_S p e below s₁ m 21 #[oR la, oI 1, oI 4, oI x1, oI 1, oI 1, oI 2, oI x2] [(.int 1), (.int 2)] _
    refine XS.iushr X0.here hx rfl (hb hby d7_21) rfl ?_
    show own_S p e below s₁ m 22 #[oR la, oI 1, oI 4, oI x1, oI 1, oI 1, oI 2, oI x2] [(.int (((2 : Int32).toUInt32 >>> ((1 : Int32) &&& 31).toUInt32).toInt32))] _
    refine reI (by decide : (((2 : Int32).toUInt32 >>> ((1 : Int32) &&& 31).toUInt32).toInt32) = (1 : Int32)) ?_
    show own_S p e below s₁ m 22 #[oR la, oI 1, oI 4, oI x1, oI 1, oI 1, oI 2, oI x2] [(.int 1)] _
    refine XS.istore X0.here hx rfl (hb hby d7_22) rfl (l' := #[.val (.ref la), .val (.int 1), .val (.int 4), .val (.int x1), .val (.int 1), .val (.int 1), .val (.int 1), .val (.int x2)]) rfl ?_
    show own_S p e below s₁ m 24 #[oR la, oI 1, oI 4, oI x1, oI 1, oI 1, oI 1, oI x2] [] _
    refine XS.aloadN X0.here hx rfl (hb hby d7_24) rfl rfl ?_
    show own_S p e below s₁ m 25 #[oR la, oI 1, oI 4, oI x1, oI 1, oI 1, oI 1, oI x2] [(.ref la)] _
    refine XS.iload X0.here hx rfl (hb hby d7_25) rfl ?_
    show own_S p e below s₁ m 27 #[oR la, oI 1, oI 4, oI x1, oI 1, oI 1, oI 1, oI x2] [(.int 1), (.ref la)] _
    refine X0.iaload hx (j := (1 : Int32)) (v := (.int x1)) (by rw [e0]; exact Ar102.1) (State.isArrayOf_alike hZ.alike Ar102.2.1) Ar102.2.2 hin102 hat102 (g := (mkF m 27 #[.val (.ref la), .val (.int 1), .val (.int 4), .val (.int x1), .val (.int 1), .val (.int 1), .val (.int 1), .val (.int x2)] [(.int 1), (.ref la)])) rfl rfl (hb hby d7_27) _ ?_
    show own_S p e below s₁ m 28 #[oR la, oI 1, oI 4, oI x1, oI 1, oI 1, oI 1, oI x2] [(.int x1)] _
    refine XS.istore X0.here hx rfl (hb hby d7_28) rfl (l' := #[.val (.ref la), .val (.int 1), .val (.int 4), .val (.int x1), .val (.int 1), .val (.int 1), .val (.int 1), .val (.int x1)]) rfl ?_
    show own_S p e below s₁ m 30 #[oR la, oI 1, oI 4, oI x1, oI 1, oI 1, oI 1, oI x1] [] _
    refine XS.iload X0.here hx rfl (hb hby d7_30) rfl ?_
    show own_S p e below s₁ m 32 #[oR la, oI 1, oI 4, oI x1, oI 1, oI 1, oI 1, oI x1] [(.int x1)] _
    refine XS.iloadN X0.here hx rfl (hb hby d7_32) rfl ?_
    show own_S p e below s₁ m 33 #[oR la, oI 1, oI 4, oI x1, oI 1, oI 1, oI 1, oI x1] [(.int x1), (.int x1)] _
    refine XS.icmpYes X0.here hx rfl (pc0 := 33) (pc' := 45) rfl (hb hby d7_33) rfl (flt (own_irr : ¬ (x1 < x1))).2.1 (by decide) (by decide) ?_
    show own_S p e below s₁ m 45 #[oR la, oI 1, oI 4, oI x1, oI 1, oI 1, oI 1, oI x1] [] _
    refine XS.iload X0.here hx rfl (hb hby d7_45) rfl ?_
    show own_S p e below s₁ m 47 #[oR la, oI 1, oI 4, oI x1, oI 1, oI 1, oI 1, oI x1] [(.int x1)] _
    refine XS.iloadN X0.here hx rfl (hb hby d7_47) rfl ?_
    show own_S p e below s₁ m 48 #[oR la, oI 1, oI 4, oI x1, oI 1, oI 1, oI 1, oI x1] [(.int x1), (.int x1)] _
    refine XS.icmpYes X0.here hx rfl (pc0 := 48) (pc' := 60) rfl (hb hby d7_48) rfl (flt (own_irr : ¬ (x1 < x1))).2.2.2 (by decide) (by decide) ?_
    show own_S p e below s₁ m 60 #[oR la, oI 1, oI 4, oI x1, oI 1, oI 1, oI 1, oI x1] [] _
    refine XS.iload X0.here hx rfl (hb hby d7_60) rfl ?_
    show own_S p e below s₁ m 62 #[oR la, oI 1, oI 4, oI x1, oI 1, oI 1, oI 1, oI x1] [(.int 1)] _
    exact retOut X0 hx Bd.returns rfl (Or.inl ⟨rfl, Or.inl rfl, _, rfl⟩) (hb hby d7_62) hr
  · show Q7_1_4_0 Z la x1 kk x0 x2 x3 h0 n0 _ s₁.heap _
    rw [e0]
    exact ⟨rfl, N0, rfl⟩
theorem ef7_1_4_1 (m : MethodId) (la : Addr) (x2 : Int32) : entryFrame m #[(.ref la), (.int 1), (.int 4), (.int x2)] 8 = mkF m 0 #[.val (.ref la), .val (.int 1), .val (.int 4), .val (.int x2), .unset, .unset, .unset, .unset] [] := by first | (simp [entryFrame, mkF, argsToLocals, Value.category]; done) | rfl
def Q7_1_4_1 (Z : State) (la : Addr) (x2 : Int32) (kk : ClassId) (x0 : Int32) (x1 : Int32) (x3 : Int32) (h0 : Heap) (n0 : Nat) (v : Option Value) (h : Heap) (L : List Loc) : Prop := v = some (.int 2) ∧ Fr n0 L ∧ (h = h0)
set_option maxRecDepth 65536 in
set_option maxHeartbeats 40000000 in
theorem rm7_1_4_1 (l : Launch) (Z : State) (a0 : Array Value) (hw : ∀ d ∈ tables_1, d.before a0 Z = true) (ws : List Jvm.Cond) (la : Addr) (x2 : Int32) (kk : ClassId) (x0 : Int32) (x1 : Int32) (x3 : Int32) (h0 : Heap) (n0 : Nat) (Z0 : n0 ≤ h0.size) (V_la : Arv Z h0 la kk .int (4 : Int32) [(.int x0), (.int x1), (.int x2), (.int x3)] (.int 0)) (o01 : x0 < x1) (o02 : x0 < x2) (o03 : x0 < x3) (o12 : x1 < x2) (o13 : x1 < x3) (o23 : x2 < x3) :
    MetFree l (⟨"java/util/Arrays", "binarySearch0", "([IIII)I"⟩ : MethodName) (head1 (Jvm.Cond.code (⟨"java/util/Arrays", "binarySearch0", "([IIII)I"⟩ : MethodName) jdk_65_method_59_code 8 (some .int) :: ws) ({ frames := 0, cells := 0, slots := 0, locals := 0 } : Room)) (fun a U => a = #[(.ref la), (.int 1), (.int 4), (.int x2)] ∧ Z.Warmed39 U.vm ∧ U.heap = h0) (fun _ _ _ _ _ => True) (fun _ U o U' => ∃ v L, o = .returned v ∧ Q7_1_4_1 Z la x2 kk x0 x1 x3 h0 n0 v U'.heap L ∧ FrameEnd U o U' L ({ frames := 0, cells := 0, slots := 0, locals := 0 } : Room).cells ({ frames := 0, cells := 0, slots := 0, locals := 0 } : Room).slots) := by
  refine MetFree.of_bodySF (plainFor_of_name pn1) hisR ?_
  intro p e s m args below meth c s₁ Bd hml0 hP hK
  obtain ⟨rfl, hZ, hh⟩ := hP
  have hx := Bd.exec
  have hby := Bd.bytes
  have hml : c.maxLocals = 8 := hml0
  have hown : s.vm.findClass "java/util/Arrays" = some m.cls := findClass_of_methodNamed Bd.named
  have hnm := (name_of_methodNamed Bd.named Bd.method).1
  have X0 : Stand p l e ({ frames := 0, cells := 0, slots := 0, locals := 0 } : Room) s m #[(.ref la), (.int 1), (.int 4), (.int x2)] below meth c s₁ [] 0 0 := Stand.of_body Bd
  have e0 : s₁.heap = h0 := by rw [← hh, Bd.state]; rfl
  have N0 := Fr.nil n0
  have pre0 : ∀ t, Steps p.tables e below (s₁.setTop (mkF m 0 #[.val (.ref la), .val (.int 1), .val (.int 4), .val (.int x2), .unset, .unset, .unset, .unset] [])) t → Steps p.tables e below (s₁.setTop (entryFrame m #[(.ref la), (.int 1), (.int 4), (.int x2)] 8)) t := fun t k => castTop (ef7_1_4_1 m la x2) k
  obtain ⟨cl101, Ar101, qk101, Sz101, Nz101, Hh101, Gg101⟩ := id V_la
  have hin101 : ¬ ((2 : Int32) < 0 ∨ cl101.slots.size ≤ ((2 : Int32)).toNatClampNeg) := inb_of Sz101 ⟨by decide, by decide⟩
  have hat101 : cl101.slots[((2 : Int32)).toNatClampNeg]? = some (.int x2) := Has.at Hh101 hin101 rfl
  obtain ⟨fs, hr, hrun, hended, hW, hsame⟩ := X0.leave (v := some (.int 2)) (fun h => by rw [Bd.returns] at h; cases h)
  refine ⟨_, _, pre0 _ ?_, hrun, hended, _, _, rfl, ?_, ⟨_, rfl⟩, hW, hsame.mono (by decide) (by decide)⟩
  · show own_S p e below s₁ m 0 #[oR la, oI 1, oI 4, oI x2, oU, oU, oU, oU] [] _
    refine XS.iloadN X0.here hx rfl (hb hby d7_0) rfl ?_
    show own_S p e below s₁ m 1 #[oR la, oI 1, oI 4, oI x2, oU, oU, oU, oU] [(.int 1)] _
    refine XS.istore X0.here hx rfl (hb hby d7_1) rfl (l' := #[.val (.ref la), .val (.int 1), .val (.int 4), .val (.int x2), .val (.int 1), .unset, .unset, .unset]) rfl ?_
    show own_S p e below s₁ m 3 #[oR la, oI 1, oI 4, oI x2, oI 1, oU, oU, oU] [] _
    refine XS.iloadN X0.here hx rfl (hb hby d7_3) rfl ?_
    show own_S p e below s₁ m 4 #[oR la, oI 1, oI 4, oI x2, oI 1, oU, oU, oU] [(.int 4)] _
    refine XS.iconst X0.here hx rfl (hb hby d7_4) ?_
    show own_S p e below s₁ m 5 #[oR la, oI 1, oI 4, oI x2, oI 1, oU, oU, oU] [(.int 1), (.int 4)] _
    refine XS.isub X0.here hx rfl (hb hby d7_5) rfl ?_
    show own_S p e below s₁ m 6 #[oR la, oI 1, oI 4, oI x2, oI 1, oU, oU, oU] [(.int ((4 : Int32) - (1 : Int32)))] _
    refine reI (by decide : ((4 : Int32) - (1 : Int32)) = (3 : Int32)) ?_
    show own_S p e below s₁ m 6 #[oR la, oI 1, oI 4, oI x2, oI 1, oU, oU, oU] [(.int 3)] _
    refine XS.istore X0.here hx rfl (hb hby d7_6) rfl (l' := #[.val (.ref la), .val (.int 1), .val (.int 4), .val (.int x2), .val (.int 1), .val (.int 3), .unset, .unset]) rfl ?_
    show own_S p e below s₁ m 8 #[oR la, oI 1, oI 4, oI x2, oI 1, oI 3, oU, oU] [] _
    refine XS.iload X0.here hx rfl (hb hby d7_8) rfl ?_
    show own_S p e below s₁ m 10 #[oR la, oI 1, oI 4, oI x2, oI 1, oI 3, oU, oU] [(.int 1)] _
    refine XS.iload X0.here hx rfl (hb hby d7_10) rfl ?_
    show own_S p e below s₁ m 12 #[oR la, oI 1, oI 4, oI x2, oI 1, oI 3, oU, oU] [(.int 3), (.int 1)] _
    refine XS.icmpNo X0.here hx rfl (hb hby d7_12) rfl (flt (by decide : ¬ ((3 : Int32) < (1 : Int32)))).2.2.1 ?_
    show own_S p e below s₁ m 15 #[oR la, oI 1, oI 4, oI x2, oI 1, oI 3, oU, oU] [] _
    refine XS.iload X0.here hx rfl (hb hby d7_15) rfl ?_
    show own_S p e below s₁ m 17 #[oR la, oI 1, oI 4, oI x2, oI 1, oI 3, oU, oU] [(.int 1)] _
    refine XS.iload X0.here hx rfl (hb hby d7_17) rfl ?_
    show own_S p e below s₁ m 19 #[oR la, oI 1, oI 4, oI x2, oI 1, oI 3, oU, oU] [(.int 3), (.int 1)] _
    refine XS.iadd X0.here hx rfl (hb hby d7_19) rfl ?_
    show own_S p e below s₁ m 20 #[oR la, oI 1, oI 4, oI x2, oI 1, oI 3, oU, oU] [(.int ((1 : Int32) + (3 : Int32)))] _
    refine reI (by decide : ((1 : Int32) + (3 : Int32)) = (4 : Int32)) ?_
    show own_S p e below s₁ m 20 #[oR la, oI 1, oI 4, oI x2, oI 1, oI 3, oU, oU] [(.int 4)] _
    refine XS.iconst X0.here hx rfl (hb hby d7_20) ?_
    show own_S p e below s₁ m 21 #[oR la, oI 1, oI 4, oI x2, oI 1, oI 3, oU, oU] [(.int 1), (.int 4)] _
    refine XS.iushr X0.here hx rfl (hb hby d7_21) rfl ?_
    show own_S p e below s₁ m 22 #[oR la, oI 1, oI 4, oI x2, oI 1, oI 3, oU, oU] [(.int (((4 : Int32).toUInt32 >>> ((1 : Int32) &&& 31).toUInt32).toInt32))] _
    refine reI (by decide : (((4 : Int32).toUInt32 >>> ((1 : Int32) &&& 31).toUInt32).toInt32) = (2 : Int32)) ?_
    show own_S p e below s₁ m 22 #[oR la, oI 1, oI 4, oI x2, oI 1, oI 3, oU, oU] [(.int 2)] _
    refine XS.istore X0.here hx rfl (hb hby d7_22) rfl (l' := #[.val (.ref la), .val (.int 1), .val (.int 4), .val (.int x2), .val (.int 1), .val (.int 3), .val (.int 2), .unset]) rfl ?_
    show own_S p e below s₁ m 24 #[oR la, oI 1, oI 4, oI x2, oI 1, oI 3, oI 2, oU] [] _
    refine XS.aloadN X0.here hx rfl (hb hby d7_24) rfl rfl ?_
    show own_S p e below s₁ m 25 #[oR la, oI 1, oI 4, oI x2, oI 1, oI 3, oI 2, oU] [(.ref la)] _
    refine XS.iload X0.here hx rfl (hb hby d7_25) rfl ?_
    show own_S p e below s₁ m 27 #[oR la, oI 1, oI 4, oI x2, oI 1, oI 3, oI 2, oU] [(.int 2), (.ref la)] _
    refine X0.iaload hx (j := (2 : Int32)) (v := (.int x2)) (by rw [e0]; exact Ar101.1) (State.isArrayOf_alike hZ.alike Ar101.2.1) Ar101.2.2 hin101 hat101 (g := (mkF m 27 #[.val (.ref la), .val (.int 1), .val (.int 4), .val (.int x2), .val (.int 1), .val (.int 3), .val (.int 2), .unset] [(.int 2), (.ref la)])) rfl rfl (hb hby d7_27) _ ?_
    show own_S p e below s₁ m 28 #[oR la, oI 1, oI 4, oI x2, oI 1, oI 3, oI 2, oU] [(.int x2)] _
    refine XS.istore X0.here hx rfl (hb hby d7_28) rfl (l' := #[.val (.ref la), .val (.int 1), .val (.int 4), .val (.int x2), .val (.int 1), .val (.int 3), .val (.int 2), .val (.int x2)]) rfl ?_
    show own_S p e below s₁ m 30 #[oR la, oI 1, oI 4, oI x2, oI 1, oI 3, oI 2, oI x2] [] _
    refine XS.iload X0.here hx rfl (hb hby d7_30) rfl ?_
    show own_S p e below s₁ m 32 #[oR la, oI 1, oI 4, oI x2, oI 1, oI 3, oI 2, oI x2] [(.int x2)] _
    refine XS.iloadN X0.here hx rfl (hb hby d7_32) rfl ?_
    show own_S p e below s₁ m 33 #[oR la, oI 1, oI 4, oI x2, oI 1, oI 3, oI 2, oI x2] [(.int x2), (.int x2)] _
    refine XS.icmpYes X0.here hx rfl (pc0 := 33) (pc' := 45) rfl (hb hby d7_33) rfl (flt (own_irr : ¬ (x2 < x2))).2.1 (by decide) (by decide) ?_
    show own_S p e below s₁ m 45 #[oR la, oI 1, oI 4, oI x2, oI 1, oI 3, oI 2, oI x2] [] _
    refine XS.iload X0.here hx rfl (hb hby d7_45) rfl ?_
    show own_S p e below s₁ m 47 #[oR la, oI 1, oI 4, oI x2, oI 1, oI 3, oI 2, oI x2] [(.int x2)] _
    refine XS.iloadN X0.here hx rfl (hb hby d7_47) rfl ?_
    show own_S p e below s₁ m 48 #[oR la, oI 1, oI 4, oI x2, oI 1, oI 3, oI 2, oI x2] [(.int x2), (.int x2)] _
    refine XS.icmpYes X0.here hx rfl (pc0 := 48) (pc' := 60) rfl (hb hby d7_48) rfl (flt (own_irr : ¬ (x2 < x2))).2.2.2 (by decide) (by decide) ?_
    show own_S p e below s₁ m 60 #[oR la, oI 1, oI 4, oI x2, oI 1, oI 3, oI 2, oI x2] [] _
    refine XS.iload X0.here hx rfl (hb hby d7_60) rfl ?_
    show own_S p e below s₁ m 62 #[oR la, oI 1, oI 4, oI x2, oI 1, oI 3, oI 2, oI x2] [(.int 2)] _
    exact retOut X0 hx Bd.returns rfl (Or.inl ⟨rfl, Or.inl rfl, _, rfl⟩) (hb hby d7_62) hr
  · show Q7_1_4_1 Z la x2 kk x0 x1 x3 h0 n0 _ s₁.heap _
    rw [e0]
    exact ⟨rfl, N0, rfl⟩
theorem ef7_1_4_2 (m : MethodId) (la : Addr) (x3 : Int32) : entryFrame m #[(.ref la), (.int 1), (.int 4), (.int x3)] 8 = mkF m 0 #[.val (.ref la), .val (.int 1), .val (.int 4), .val (.int x3), .unset, .unset, .unset, .unset] [] := by first | (simp [entryFrame, mkF, argsToLocals, Value.category]; done) | rfl
def Q7_1_4_2 (Z : State) (la : Addr) (x3 : Int32) (kk : ClassId) (x0 : Int32) (x1 : Int32) (x2 : Int32) (h0 : Heap) (n0 : Nat) (v : Option Value) (h : Heap) (L : List Loc) : Prop := v = some (.int 3) ∧ Fr n0 L ∧ (h = h0)
set_option maxRecDepth 65536 in
set_option maxHeartbeats 40000000 in
theorem rm7_1_4_2 (l : Launch) (Z : State) (a0 : Array Value) (hw : ∀ d ∈ tables_1, d.before a0 Z = true) (ws : List Jvm.Cond) (la : Addr) (x3 : Int32) (kk : ClassId) (x0 : Int32) (x1 : Int32) (x2 : Int32) (h0 : Heap) (n0 : Nat) (Z0 : n0 ≤ h0.size) (V_la : Arv Z h0 la kk .int (4 : Int32) [(.int x0), (.int x1), (.int x2), (.int x3)] (.int 0)) (o01 : x0 < x1) (o02 : x0 < x2) (o03 : x0 < x3) (o12 : x1 < x2) (o13 : x1 < x3) (o23 : x2 < x3) :
    MetFree l (⟨"java/util/Arrays", "binarySearch0", "([IIII)I"⟩ : MethodName) (head1 (Jvm.Cond.code (⟨"java/util/Arrays", "binarySearch0", "([IIII)I"⟩ : MethodName) jdk_65_method_59_code 8 (some .int) :: ws) ({ frames := 0, cells := 0, slots := 0, locals := 0 } : Room)) (fun a U => a = #[(.ref la), (.int 1), (.int 4), (.int x3)] ∧ Z.Warmed39 U.vm ∧ U.heap = h0) (fun _ _ _ _ _ => True) (fun _ U o U' => ∃ v L, o = .returned v ∧ Q7_1_4_2 Z la x3 kk x0 x1 x2 h0 n0 v U'.heap L ∧ FrameEnd U o U' L ({ frames := 0, cells := 0, slots := 0, locals := 0 } : Room).cells ({ frames := 0, cells := 0, slots := 0, locals := 0 } : Room).slots) := by
  refine MetFree.of_bodySF (plainFor_of_name pn1) hisR ?_
  intro p e s m args below meth c s₁ Bd hml0 hP hK
  obtain ⟨rfl, hZ, hh⟩ := hP
  have hx := Bd.exec
  have hby := Bd.bytes
  have hml : c.maxLocals = 8 := hml0
  have hown : s.vm.findClass "java/util/Arrays" = some m.cls := findClass_of_methodNamed Bd.named
  have hnm := (name_of_methodNamed Bd.named Bd.method).1
  have X0 : Stand p l e ({ frames := 0, cells := 0, slots := 0, locals := 0 } : Room) s m #[(.ref la), (.int 1), (.int 4), (.int x3)] below meth c s₁ [] 0 0 := Stand.of_body Bd
  have e0 : s₁.heap = h0 := by rw [← hh, Bd.state]; rfl
  have N0 := Fr.nil n0
  have pre0 : ∀ t, Steps p.tables e below (s₁.setTop (mkF m 0 #[.val (.ref la), .val (.int 1), .val (.int 4), .val (.int x3), .unset, .unset, .unset, .unset] [])) t → Steps p.tables e below (s₁.setTop (entryFrame m #[(.ref la), (.int 1), (.int 4), (.int x3)] 8)) t := fun t k => castTop (ef7_1_4_2 m la x3) k
  obtain ⟨cl101, Ar101, qk101, Sz101, Nz101, Hh101, Gg101⟩ := id V_la
  have hin101 : ¬ ((2 : Int32) < 0 ∨ cl101.slots.size ≤ ((2 : Int32)).toNatClampNeg) := inb_of Sz101 ⟨by decide, by decide⟩
  have hat101 : cl101.slots[((2 : Int32)).toNatClampNeg]? = some (.int x2) := Has.at Hh101 hin101 rfl
  obtain ⟨cl102, Ar102, qk102, Sz102, Nz102, Hh102, Gg102⟩ := id V_la
  have hin102 : ¬ ((3 : Int32) < 0 ∨ cl102.slots.size ≤ ((3 : Int32)).toNatClampNeg) := inb_of Sz102 ⟨by decide, by decide⟩
  have hat102 : cl102.slots[((3 : Int32)).toNatClampNeg]? = some (.int x3) := Has.at Hh102 hin102 rfl
  obtain ⟨fs, hr, hrun, hended, hW, hsame⟩ := X0.leave (v := some (.int 3)) (fun h => by rw [Bd.returns] at h; cases h)
  refine ⟨_, _, pre0 _ ?_, hrun, hended, _, _, rfl, ?_, ⟨_, rfl⟩, hW, hsame.mono (by decide) (by decide)⟩
  · show own_S p e below s₁ m 0 #[oR la, oI 1, oI 4, oI x3, oU, oU, oU, oU] [] _
    refine XS.iloadN X0.here hx rfl (hb hby d7_0) rfl ?_
    show own_S p e below s₁ m 1 #[oR la, oI 1, oI 4, oI x3, oU, oU, oU, oU] [(.int 1)] _
    refine XS.istore X0.here hx rfl (hb hby d7_1) rfl (l' := #[.val (.ref la), .val (.int 1), .val (.int 4), .val (.int x3), .val (.int 1), .unset, .unset, .unset]) rfl ?_
    show own_S p e below s₁ m 3 #[oR la, oI 1, oI 4, oI x3, oI 1, oU, oU, oU] [] _
    refine XS.iloadN X0.here hx rfl (hb hby d7_3) rfl ?_
    show own_S p e below s₁ m 4 #[oR la, oI 1, oI 4, oI x3, oI 1, oU, oU, oU] [(.int 4)] _
    refine XS.iconst X0.here hx rfl (hb hby d7_4) ?_
    show own_S p e below s₁ m 5 #[oR la, oI 1, oI 4, oI x3, oI 1, oU, oU, oU] [(.int 1), (.int 4)] _
    refine XS.isub X0.here hx rfl (hb hby d7_5) rfl ?_
    show own_S p e below s₁ m 6 #[oR la, oI 1, oI 4, oI x3, oI 1, oU, oU, oU] [(.int ((4 : Int32) - (1 : Int32)))] _
    refine reI (by decide : ((4 : Int32) - (1 : Int32)) = (3 : Int32)) ?_
    show own_S p e below s₁ m 6 #[oR la, oI 1, oI 4, oI x3, oI 1, oU, oU, oU] [(.int 3)] _
    refine XS.istore X0.here hx rfl (hb hby d7_6) rfl (l' := #[.val (.ref la), .val (.int 1), .val (.int 4), .val (.int x3), .val (.int 1), .val (.int 3), .unset, .unset]) rfl ?_
    show own_S p e below s₁ m 8 #[oR la, oI 1, oI 4, oI x3, oI 1, oI 3, oU, oU] [] _
    refine XS.iload X0.here hx rfl (hb hby d7_8) rfl ?_
    show own_S p e below s₁ m 10 #[oR la, oI 1, oI 4, oI x3, oI 1, oI 3, oU, oU] [(.int 1)] _
    refine XS.iload X0.here hx rfl (hb hby d7_10) rfl ?_
    show own_S p e below s₁ m 12 #[oR la, oI 1, oI 4, oI x3, oI 1, oI 3, oU, oU] [(.int 3), (.int 1)] _
    refine XS.icmpNo X0.here hx rfl (hb hby d7_12) rfl (flt (by decide : ¬ ((3 : Int32) < (1 : Int32)))).2.2.1 ?_
    show own_S p e below s₁ m 15 #[oR la, oI 1, oI 4, oI x3, oI 1, oI 3, oU, oU] [] _
    refine XS.iload X0.here hx rfl (hb hby d7_15) rfl ?_
    show own_S p e below s₁ m 17 #[oR la, oI 1, oI 4, oI x3, oI 1, oI 3, oU, oU] [(.int 1)] _
    refine XS.iload X0.here hx rfl (hb hby d7_17) rfl ?_
    show own_S p e below s₁ m 19 #[oR la, oI 1, oI 4, oI x3, oI 1, oI 3, oU, oU] [(.int 3), (.int 1)] _
    refine XS.iadd X0.here hx rfl (hb hby d7_19) rfl ?_
    show own_S p e below s₁ m 20 #[oR la, oI 1, oI 4, oI x3, oI 1, oI 3, oU, oU] [(.int ((1 : Int32) + (3 : Int32)))] _
    refine reI (by decide : ((1 : Int32) + (3 : Int32)) = (4 : Int32)) ?_
    show own_S p e below s₁ m 20 #[oR la, oI 1, oI 4, oI x3, oI 1, oI 3, oU, oU] [(.int 4)] _
    refine XS.iconst X0.here hx rfl (hb hby d7_20) ?_
    show own_S p e below s₁ m 21 #[oR la, oI 1, oI 4, oI x3, oI 1, oI 3, oU, oU] [(.int 1), (.int 4)] _
    refine XS.iushr X0.here hx rfl (hb hby d7_21) rfl ?_
    show own_S p e below s₁ m 22 #[oR la, oI 1, oI 4, oI x3, oI 1, oI 3, oU, oU] [(.int (((4 : Int32).toUInt32 >>> ((1 : Int32) &&& 31).toUInt32).toInt32))] _
    refine reI (by decide : (((4 : Int32).toUInt32 >>> ((1 : Int32) &&& 31).toUInt32).toInt32) = (2 : Int32)) ?_
    show own_S p e below s₁ m 22 #[oR la, oI 1, oI 4, oI x3, oI 1, oI 3, oU, oU] [(.int 2)] _
    refine XS.istore X0.here hx rfl (hb hby d7_22) rfl (l' := #[.val (.ref la), .val (.int 1), .val (.int 4), .val (.int x3), .val (.int 1), .val (.int 3), .val (.int 2), .unset]) rfl ?_
    show own_S p e below s₁ m 24 #[oR la, oI 1, oI 4, oI x3, oI 1, oI 3, oI 2, oU] [] _
    refine XS.aloadN X0.here hx rfl (hb hby d7_24) rfl rfl ?_
    show own_S p e below s₁ m 25 #[oR la, oI 1, oI 4, oI x3, oI 1, oI 3, oI 2, oU] [(.ref la)] _
    refine XS.iload X0.here hx rfl (hb hby d7_25) rfl ?_
    show own_S p e below s₁ m 27 #[oR la, oI 1, oI 4, oI x3, oI 1, oI 3, oI 2, oU] [(.int 2), (.ref la)] _
    refine X0.iaload hx (j := (2 : Int32)) (v := (.int x2)) (by rw [e0]; exact Ar101.1) (State.isArrayOf_alike hZ.alike Ar101.2.1) Ar101.2.2 hin101 hat101 (g := (mkF m 27 #[.val (.ref la), .val (.int 1), .val (.int 4), .val (.int x3), .val (.int 1), .val (.int 3), .val (.int 2), .unset] [(.int 2), (.ref la)])) rfl rfl (hb hby d7_27) _ ?_
    show own_S p e below s₁ m 28 #[oR la, oI 1, oI 4, oI x3, oI 1, oI 3, oI 2, oU] [(.int x2)] _
    refine XS.istore X0.here hx rfl (hb hby d7_28) rfl (l' := #[.val (.ref la), .val (.int 1), .val (.int 4), .val (.int x3), .val (.int 1), .val (.int 3), .val (.int 2), .val (.int x2)]) rfl ?_
    show own_S p e below s₁ m 30 #[oR la, oI 1, oI 4, oI x3, oI 1, oI 3, oI 2, oI x2] [] _
    refine XS.iload X0.here hx rfl (hb hby d7_30) rfl ?_
    show own_S p e below s₁ m 32 #[oR la, oI 1, oI 4, oI x3, oI 1, oI 3, oI 2, oI x2] [(.int x2)] _
    refine XS.iloadN X0.here hx rfl (hb hby d7_32) rfl ?_
    show own_S p e below s₁ m 33 #[oR la, oI 1, oI 4, oI x3, oI 1, oI 3, oI 2, oI x2] [(.int x3), (.int x2)] _
    refine XS.icmpNo X0.here hx rfl (hb hby d7_33) rfl (tlt (o23 : x2 < x3)).2.1 ?_
    show own_S p e below s₁ m 36 #[oR la, oI 1, oI 4, oI x3, oI 1, oI 3, oI 2, oI x2] [] _
    refine XS.iload X0.here hx rfl (hb hby d7_36) rfl ?_
    show own_S p e below s₁ m 38 #[oR la, oI 1, oI 4, oI x3, oI 1, oI 3, oI 2, oI x2] [(.int 2)] _
    refine XS.iconst X0.here hx rfl (hb hby d7_38) ?_
    show own_S p e below s₁ m 39 #[oR la, oI 1, oI 4, oI x3, oI 1, oI 3, oI 2, oI x2] [(.int 1), (.int 2)] _
    refine XS.iadd X0.here hx rfl (hb hby d7_39) rfl ?_
    show own_S p e below s₁ m 40 #[oR la, oI 1, oI 4, oI x3, oI 1, oI 3, oI 2, oI x2] [(.int ((2 : Int32) + (1 : Int32)))] _
    refine reI (by decide : ((2 : Int32) + (1 : Int32)) = (3 : Int32)) ?_
    show own_S p e below s₁ m 40 #[oR la, oI 1, oI 4, oI x3, oI 1, oI 3, oI 2, oI x2] [(.int 3)] _
    refine XS.istore X0.here hx rfl (hb hby d7_40) rfl (l' := #[.val (.ref la), .val (.int 1), .val (.int 4), .val (.int x3), .val (.int 3), .val (.int 3), .val (.int 2), .val (.int x2)]) rfl ?_
    show own_S p e below s₁ m 42 #[oR la, oI 1, oI 4, oI x3, oI 3, oI 3, oI 2, oI x2] [] _
    refine XS.goto X0.here hx rfl (pc0 := 42) (pc' := 63) rfl (hb hby d7_42) (by decide) (by decide) ?_
    show own_S p e below s₁ m 63 #[oR la, oI 1, oI 4, oI x3, oI 3, oI 3, oI 2, oI x2] [] _
    refine XS.goto X0.here hx rfl (pc0 := 63) (pc' := 8) rfl (hb hby d7_63) (by decide) (by decide) ?_
    show own_S p e below s₁ m 8 #[oR la, oI 1, oI 4, oI x3, oI 3, oI 3, oI 2, oI x2] [] _
    refine XS.iload X0.here hx rfl (hb hby d7_8) rfl ?_
    show own_S p e below s₁ m 10 #[oR la, oI 1, oI 4, oI x3, oI 3, oI 3, oI 2, oI x2] [(.int 3)] _
    refine XS.iload X0.here hx rfl (hb hby d7_10) rfl ?_
    show own_S p e below s₁ m 12 #[oR la, oI 1, oI 4, oI x3, oI 3, oI 3, oI 2, oI x2] [(.int 3), (.int 3)] _
    refine XS.icmpNo X0.here hx rfl (hb hby d7_12) rfl (flt (by decide : ¬ ((3 : Int32) < (3 : Int32)))).2.2.1 ?_
    show own_S p e below s₁ m 15 #[oR la, oI 1, oI 4, oI x3, oI 3, oI 3, oI 2, oI x2] [] _
    refine XS.iload X0.here hx rfl (hb hby d7_15) rfl ?_
    show own_S p e below s₁ m 17 #[oR la, oI 1, oI 4, oI x3, oI 3, oI 3, oI 2, oI x2] [(.int 3)] _
    refine XS.iload X0.here hx rfl (hb hby d7_17) rfl ?_
    show own_S p e below s₁ m 19 #[oR la, oI 1, oI 4, oI x3, oI 3, oI 3, oI 2, oI x2] [(.int 3), (.int 3)] _
    refine XS.iadd X0.here hx rfl (hb hby d7_19) rfl ?_
    show own_S p e below s₁ m 20 #[oR la, oI 1, oI 4, oI x3, oI 3, oI 3, oI 2, oI x2] [(.int ((3 : Int32) + (3 : Int32)))] _
    refine reI (by decide : ((3 : Int32) + (3 : Int32)) = (6 : Int32)) ?_
    show own_S p e below s₁ m 20 #[oR la, oI 1, oI 4, oI x3, oI 3, oI 3, oI 2, oI x2] [(.int 6)] _
    refine XS.iconst X0.here hx rfl (hb hby d7_20) ?_
    show own_S p e below s₁ m 21 #[oR la, oI 1, oI 4, oI x3, oI 3, oI 3, oI 2, oI x2] [(.int 1), (.int 6)] _
    refine XS.iushr X0.here hx rfl (hb hby d7_21) rfl ?_
    show own_S p e below s₁ m 22 #[oR la, oI 1, oI 4, oI x3, oI 3, oI 3, oI 2, oI x2] [(.int (((6 : Int32).toUInt32 >>> ((1 : Int32) &&& 31).toUInt32).toInt32))] _
    refine reI (by decide : (((6 : Int32).toUInt32 >>> ((1 : Int32) &&& 31).toUInt32).toInt32) = (3 : Int32)) ?_
    show own_S p e below s₁ m 22 #[oR la, oI 1, oI 4, oI x3, oI 3, oI 3, oI 2, oI x2] [(.int 3)] _
    refine XS.istore X0.here hx rfl (hb hby d7_22) rfl (l' := #[.val (.ref la), .val (.int 1), .val (.int 4), .val (.int x3), .val (.int 3), .val (.int 3), .val (.int 3), .val (.int x2)]) rfl ?_
    show own_S p e below s₁ m 24 #[oR la, oI 1, oI 4, oI x3, oI 3, oI 3, oI 3, oI x2] [] _
    refine XS.aloadN X0.here hx rfl (hb hby d7_24) rfl rfl ?_
    show own_S p e below s₁ m 25 #[oR la, oI 1, oI 4, oI x3, oI 3, oI 3, oI 3, oI x2] [(.ref la)] _
    refine XS.iload X0.here hx rfl (hb hby d7_25) rfl ?_
    show own_S p e below s₁ m 27 #[oR la, oI 1, oI 4, oI x3, oI 3, oI 3, oI 3, oI x2] [(.int 3), (.ref la)] _
    refine X0.iaload hx (j := (3 : Int32)) (v := (.int x3)) (by rw [e0]; exact Ar102.1) (State.isArrayOf_alike hZ.alike Ar102.2.1) Ar102.2.2 hin102 hat102 (g := (mkF m 27 #[.val (.ref la), .val (.int 1), .val (.int 4), .val (.int x3), .val (.int 3), .val (.int 3), .val (.int 3), .val (.int x2)] [(.int 3), (.ref la)])) rfl rfl (hb hby d7_27) _ ?_
    show own_S p e below s₁ m 28 #[oR la, oI 1, oI 4, oI x3, oI 3, oI 3, oI 3, oI x2] [(.int x3)] _
    refine XS.istore X0.here hx rfl (hb hby d7_28) rfl (l' := #[.val (.ref la), .val (.int 1), .val (.int 4), .val (.int x3), .val (.int 3), .val (.int 3), .val (.int 3), .val (.int x3)]) rfl ?_
    show own_S p e below s₁ m 30 #[oR la, oI 1, oI 4, oI x3, oI 3, oI 3, oI 3, oI x3] [] _
    refine XS.iload X0.here hx rfl (hb hby d7_30) rfl ?_
    show own_S p e below s₁ m 32 #[oR la, oI 1, oI 4, oI x3, oI 3, oI 3, oI 3, oI x3] [(.int x3)] _
    refine XS.iloadN X0.here hx rfl (hb hby d7_32) rfl ?_
    show own_S p e below s₁ m 33 #[oR la, oI 1, oI 4, oI x3, oI 3, oI 3, oI 3, oI x3] [(.int x3), (.int x3)] _
    refine XS.icmpYes X0.here hx rfl (pc0 := 33) (pc' := 45) rfl (hb hby d7_33) rfl (flt (own_irr : ¬ (x3 < x3))).2.1 (by decide) (by decide) ?_
    show own_S p e below s₁ m 45 #[oR la, oI 1, oI 4, oI x3, oI 3, oI 3, oI 3, oI x3] [] _
    refine XS.iload X0.here hx rfl (hb hby d7_45) rfl ?_
    show own_S p e below s₁ m 47 #[oR la, oI 1, oI 4, oI x3, oI 3, oI 3, oI 3, oI x3] [(.int x3)] _
    refine XS.iloadN X0.here hx rfl (hb hby d7_47) rfl ?_
    show own_S p e below s₁ m 48 #[oR la, oI 1, oI 4, oI x3, oI 3, oI 3, oI 3, oI x3] [(.int x3), (.int x3)] _
    refine XS.icmpYes X0.here hx rfl (pc0 := 48) (pc' := 60) rfl (hb hby d7_48) rfl (flt (own_irr : ¬ (x3 < x3))).2.2.2 (by decide) (by decide) ?_
    show own_S p e below s₁ m 60 #[oR la, oI 1, oI 4, oI x3, oI 3, oI 3, oI 3, oI x3] [] _
    refine XS.iload X0.here hx rfl (hb hby d7_60) rfl ?_
    show own_S p e below s₁ m 62 #[oR la, oI 1, oI 4, oI x3, oI 3, oI 3, oI 3, oI x3] [(.int 3)] _
    exact retOut X0 hx Bd.returns rfl (Or.inl ⟨rfl, Or.inl rfl, _, rfl⟩) (hb hby d7_62) hr
  · show Q7_1_4_2 Z la x3 kk x0 x1 x2 h0 n0 _ s₁.heap _
    rw [e0]
    exact ⟨rfl, N0, rfl⟩
theorem ef7_2_3_0 (m : MethodId) (la : Addr) (x2 : Int32) : entryFrame m #[(.ref la), (.int 2), (.int 3), (.int x2)] 8 = mkF m 0 #[.val (.ref la), .val (.int 2), .val (.int 3), .val (.int x2), .unset, .unset, .unset, .unset] [] := by first | (simp [entryFrame, mkF, argsToLocals, Value.category]; done) | rfl
def Q7_2_3_0 (Z : State) (la : Addr) (x2 : Int32) (kk : ClassId) (x0 : Int32) (x1 : Int32) (x3 : Int32) (h0 : Heap) (n0 : Nat) (v : Option Value) (h : Heap) (L : List Loc) : Prop := v = some (.int 2) ∧ Fr n0 L ∧ (h = h0)
set_option maxRecDepth 65536 in
set_option maxHeartbeats 40000000 in
theorem rm7_2_3_0 (l : Launch) (Z : State) (a0 : Array Value) (hw : ∀ d ∈ tables_1, d.before a0 Z = true) (ws : List Jvm.Cond) (la : Addr) (x2 : Int32) (kk : ClassId) (x0 : Int32) (x1 : Int32) (x3 : Int32) (h0 : Heap) (n0 : Nat) (Z0 : n0 ≤ h0.size) (V_la : Arv Z h0 la kk .int (4 : Int32) [(.int x0), (.int x1), (.int x2), (.int x3)] (.int 0)) (o01 : x0 < x1) (o02 : x0 < x2) (o03 : x0 < x3) (o12 : x1 < x2) (o13 : x1 < x3) (o23 : x2 < x3) :
    MetFree l (⟨"java/util/Arrays", "binarySearch0", "([IIII)I"⟩ : MethodName) (head1 (Jvm.Cond.code (⟨"java/util/Arrays", "binarySearch0", "([IIII)I"⟩ : MethodName) jdk_65_method_59_code 8 (some .int) :: ws) ({ frames := 0, cells := 0, slots := 0, locals := 0 } : Room)) (fun a U => a = #[(.ref la), (.int 2), (.int 3), (.int x2)] ∧ Z.Warmed39 U.vm ∧ U.heap = h0) (fun _ _ _ _ _ => True) (fun _ U o U' => ∃ v L, o = .returned v ∧ Q7_2_3_0 Z la x2 kk x0 x1 x3 h0 n0 v U'.heap L ∧ FrameEnd U o U' L ({ frames := 0, cells := 0, slots := 0, locals := 0 } : Room).cells ({ frames := 0, cells := 0, slots := 0, locals := 0 } : Room).slots) := by
  refine MetFree.of_bodySF (plainFor_of_name pn1) hisR ?_
  intro p e s m args below meth c s₁ Bd hml0 hP hK
  obtain ⟨rfl, hZ, hh⟩ := hP
  have hx := Bd.exec
  have hby := Bd.bytes
  have hml : c.maxLocals = 8 := hml0
  have hown : s.vm.findClass "java/util/Arrays" = some m.cls := findClass_of_methodNamed Bd.named
  have hnm := (name_of_methodNamed Bd.named Bd.method).1
  have X0 : Stand p l e ({ frames := 0, cells := 0, slots := 0, locals := 0 } : Room) s m #[(.ref la), (.int 2), (.int 3), (.int x2)] below meth c s₁ [] 0 0 := Stand.of_body Bd
  have e0 : s₁.heap = h0 := by rw [← hh, Bd.state]; rfl
  have N0 := Fr.nil n0
  have pre0 : ∀ t, Steps p.tables e below (s₁.setTop (mkF m 0 #[.val (.ref la), .val (.int 2), .val (.int 3), .val (.int x2), .unset, .unset, .unset, .unset] [])) t → Steps p.tables e below (s₁.setTop (entryFrame m #[(.ref la), (.int 2), (.int 3), (.int x2)] 8)) t := fun t k => castTop (ef7_2_3_0 m la x2) k
  obtain ⟨cl101, Ar101, qk101, Sz101, Nz101, Hh101, Gg101⟩ := id V_la
  have hin101 : ¬ ((2 : Int32) < 0 ∨ cl101.slots.size ≤ ((2 : Int32)).toNatClampNeg) := inb_of Sz101 ⟨by decide, by decide⟩
  have hat101 : cl101.slots[((2 : Int32)).toNatClampNeg]? = some (.int x2) := Has.at Hh101 hin101 rfl
  obtain ⟨fs, hr, hrun, hended, hW, hsame⟩ := X0.leave (v := some (.int 2)) (fun h => by rw [Bd.returns] at h; cases h)
  refine ⟨_, _, pre0 _ ?_, hrun, hended, _, _, rfl, ?_, ⟨_, rfl⟩, hW, hsame.mono (by decide) (by decide)⟩
  · show own_S p e below s₁ m 0 #[oR la, oI 2, oI 3, oI x2, oU, oU, oU, oU] [] _
    refine XS.iloadN X0.here hx rfl (hb hby d7_0) rfl ?_
    show own_S p e below s₁ m 1 #[oR la, oI 2, oI 3, oI x2, oU, oU, oU, oU] [(.int 2)] _
    refine XS.istore X0.here hx rfl (hb hby d7_1) rfl (l' := #[.val (.ref la), .val (.int 2), .val (.int 3), .val (.int x2), .val (.int 2), .unset, .unset, .unset]) rfl ?_
    show own_S p e below s₁ m 3 #[oR la, oI 2, oI 3, oI x2, oI 2, oU, oU, oU] [] _
    refine XS.iloadN X0.here hx rfl (hb hby d7_3) rfl ?_
    show own_S p e below s₁ m 4 #[oR la, oI 2, oI 3, oI x2, oI 2, oU, oU, oU] [(.int 3)] _
    refine XS.iconst X0.here hx rfl (hb hby d7_4) ?_
    show own_S p e below s₁ m 5 #[oR la, oI 2, oI 3, oI x2, oI 2, oU, oU, oU] [(.int 1), (.int 3)] _
    refine XS.isub X0.here hx rfl (hb hby d7_5) rfl ?_
    show own_S p e below s₁ m 6 #[oR la, oI 2, oI 3, oI x2, oI 2, oU, oU, oU] [(.int ((3 : Int32) - (1 : Int32)))] _
    refine reI (by decide : ((3 : Int32) - (1 : Int32)) = (2 : Int32)) ?_
    show own_S p e below s₁ m 6 #[oR la, oI 2, oI 3, oI x2, oI 2, oU, oU, oU] [(.int 2)] _
    refine XS.istore X0.here hx rfl (hb hby d7_6) rfl (l' := #[.val (.ref la), .val (.int 2), .val (.int 3), .val (.int x2), .val (.int 2), .val (.int 2), .unset, .unset]) rfl ?_
    show own_S p e below s₁ m 8 #[oR la, oI 2, oI 3, oI x2, oI 2, oI 2, oU, oU] [] _
    refine XS.iload X0.here hx rfl (hb hby d7_8) rfl ?_
    show own_S p e below s₁ m 10 #[oR la, oI 2, oI 3, oI x2, oI 2, oI 2, oU, oU] [(.int 2)] _
    refine XS.iload X0.here hx rfl (hb hby d7_10) rfl ?_
    show own_S p e below s₁ m 12 #[oR la, oI 2, oI 3, oI x2, oI 2, oI 2, oU, oU] [(.int 2), (.int 2)] _
    refine XS.icmpNo X0.here hx rfl (hb hby d7_12) rfl (flt (by decide : ¬ ((2 : Int32) < (2 : Int32)))).2.2.1 ?_
    show own_S p e below s₁ m 15 #[oR la, oI 2, oI 3, oI x2, oI 2, oI 2, oU, oU] [] _
    refine XS.iload X0.here hx rfl (hb hby d7_15) rfl ?_
    show own_S p e below s₁ m 17 #[oR la, oI 2, oI 3, oI x2, oI 2, oI 2, oU, oU] [(.int 2)] _
    refine XS.iload X0.here hx rfl (hb hby d7_17) rfl ?_
    show own_S p e below s₁ m 19 #[oR la, oI 2, oI 3, oI x2, oI 2, oI 2, oU, oU] [(.int 2), (.int 2)] _
    refine XS.iadd X0.here hx rfl (hb hby d7_19) rfl ?_
    show own_S p e below s₁ m 20 #[oR la, oI 2, oI 3, oI x2, oI 2, oI 2, oU, oU] [(.int ((2 : Int32) + (2 : Int32)))] _
    refine reI (by decide : ((2 : Int32) + (2 : Int32)) = (4 : Int32)) ?_
    show own_S p e below s₁ m 20 #[oR la, oI 2, oI 3, oI x2, oI 2, oI 2, oU, oU] [(.int 4)] _
    refine XS.iconst X0.here hx rfl (hb hby d7_20) ?_
    show own_S p e below s₁ m 21 #[oR la, oI 2, oI 3, oI x2, oI 2, oI 2, oU, oU] [(.int 1), (.int 4)] _
    refine XS.iushr X0.here hx rfl (hb hby d7_21) rfl ?_
    show own_S p e below s₁ m 22 #[oR la, oI 2, oI 3, oI x2, oI 2, oI 2, oU, oU] [(.int (((4 : Int32).toUInt32 >>> ((1 : Int32) &&& 31).toUInt32).toInt32))] _
    refine reI (by decide : (((4 : Int32).toUInt32 >>> ((1 : Int32) &&& 31).toUInt32).toInt32) = (2 : Int32)) ?_
    show own_S p e below s₁ m 22 #[oR la, oI 2, oI 3, oI x2, oI 2, oI 2, oU, oU] [(.int 2)] _
    refine XS.istore X0.here hx rfl (hb hby d7_22) rfl (l' := #[.val (.ref la), .val (.int 2), .val (.int 3), .val (.int x2), .val (.int 2), .val (.int 2), .val (.int 2), .unset]) rfl ?_
    show own_S p e below s₁ m 24 #[oR la, oI 2, oI 3, oI x2, oI 2, oI 2, oI 2, oU] [] _
    refine XS.aloadN X0.here hx rfl (hb hby d7_24) rfl rfl ?_
    show own_S p e below s₁ m 25 #[oR la, oI 2, oI 3, oI x2, oI 2, oI 2, oI 2, oU] [(.ref la)] _
    refine XS.iload X0.here hx rfl (hb hby d7_25) rfl ?_
    show own_S p e below s₁ m 27 #[oR la, oI 2, oI 3, oI x2, oI 2, oI 2, oI 2, oU] [(.int 2), (.ref la)] _
    refine X0.iaload hx (j := (2 : Int32)) (v := (.int x2)) (by rw [e0]; exact Ar101.1) (State.isArrayOf_alike hZ.alike Ar101.2.1) Ar101.2.2 hin101 hat101 (g := (mkF m 27 #[.val (.ref la), .val (.int 2), .val (.int 3), .val (.int x2), .val (.int 2), .val (.int 2), .val (.int 2), .unset] [(.int 2), (.ref la)])) rfl rfl (hb hby d7_27) _ ?_
    show own_S p e below s₁ m 28 #[oR la, oI 2, oI 3, oI x2, oI 2, oI 2, oI 2, oU] [(.int x2)] _
    refine XS.istore X0.here hx rfl (hb hby d7_28) rfl (l' := #[.val (.ref la), .val (.int 2), .val (.int 3), .val (.int x2), .val (.int 2), .val (.int 2), .val (.int 2), .val (.int x2)]) rfl ?_
    show own_S p e below s₁ m 30 #[oR la, oI 2, oI 3, oI x2, oI 2, oI 2, oI 2, oI x2] [] _
    refine XS.iload X0.here hx rfl (hb hby d7_30) rfl ?_
    show own_S p e below s₁ m 32 #[oR la, oI 2, oI 3, oI x2, oI 2, oI 2, oI 2, oI x2] [(.int x2)] _
    refine XS.iloadN X0.here hx rfl (hb hby d7_32) rfl ?_
    show own_S p e below s₁ m 33 #[oR la, oI 2, oI 3, oI x2, oI 2, oI 2, oI 2, oI x2] [(.int x2), (.int x2)] _
    refine XS.icmpYes X0.here hx rfl (pc0 := 33) (pc' := 45) rfl (hb hby d7_33) rfl (flt (own_irr : ¬ (x2 < x2))).2.1 (by decide) (by decide) ?_
    show own_S p e below s₁ m 45 #[oR la, oI 2, oI 3, oI x2, oI 2, oI 2, oI 2, oI x2] [] _
    refine XS.iload X0.here hx rfl (hb hby d7_45) rfl ?_
    show own_S p e below s₁ m 47 #[oR la, oI 2, oI 3, oI x2, oI 2, oI 2, oI 2, oI x2] [(.int x2)] _
    refine XS.iloadN X0.here hx rfl (hb hby d7_47) rfl ?_
    show own_S p e below s₁ m 48 #[oR la, oI 2, oI 3, oI x2, oI 2, oI 2, oI 2, oI x2] [(.int x2), (.int x2)] _
    refine XS.icmpYes X0.here hx rfl (pc0 := 48) (pc' := 60) rfl (hb hby d7_48) rfl (flt (own_irr : ¬ (x2 < x2))).2.2.2 (by decide) (by decide) ?_
    show own_S p e below s₁ m 60 #[oR la, oI 2, oI 3, oI x2, oI 2, oI 2, oI 2, oI x2] [] _
    refine XS.iload X0.here hx rfl (hb hby d7_60) rfl ?_
    show own_S p e below s₁ m 62 #[oR la, oI 2, oI 3, oI x2, oI 2, oI 2, oI 2, oI x2] [(.int 2)] _
    exact retOut X0 hx Bd.returns rfl (Or.inl ⟨rfl, Or.inl rfl, _, rfl⟩) (hb hby d7_62) hr
  · show Q7_2_3_0 Z la x2 kk x0 x1 x3 h0 n0 _ s₁.heap _
    rw [e0]
    exact ⟨rfl, N0, rfl⟩
theorem ef7_2_4_0 (m : MethodId) (la : Addr) (x2 : Int32) : entryFrame m #[(.ref la), (.int 2), (.int 4), (.int x2)] 8 = mkF m 0 #[.val (.ref la), .val (.int 2), .val (.int 4), .val (.int x2), .unset, .unset, .unset, .unset] [] := by first | (simp [entryFrame, mkF, argsToLocals, Value.category]; done) | rfl
def Q7_2_4_0 (Z : State) (la : Addr) (x2 : Int32) (kk : ClassId) (x0 : Int32) (x1 : Int32) (x3 : Int32) (h0 : Heap) (n0 : Nat) (v : Option Value) (h : Heap) (L : List Loc) : Prop := v = some (.int 2) ∧ Fr n0 L ∧ (h = h0)
set_option maxRecDepth 65536 in
set_option maxHeartbeats 40000000 in
theorem rm7_2_4_0 (l : Launch) (Z : State) (a0 : Array Value) (hw : ∀ d ∈ tables_1, d.before a0 Z = true) (ws : List Jvm.Cond) (la : Addr) (x2 : Int32) (kk : ClassId) (x0 : Int32) (x1 : Int32) (x3 : Int32) (h0 : Heap) (n0 : Nat) (Z0 : n0 ≤ h0.size) (V_la : Arv Z h0 la kk .int (4 : Int32) [(.int x0), (.int x1), (.int x2), (.int x3)] (.int 0)) (o01 : x0 < x1) (o02 : x0 < x2) (o03 : x0 < x3) (o12 : x1 < x2) (o13 : x1 < x3) (o23 : x2 < x3) :
    MetFree l (⟨"java/util/Arrays", "binarySearch0", "([IIII)I"⟩ : MethodName) (head1 (Jvm.Cond.code (⟨"java/util/Arrays", "binarySearch0", "([IIII)I"⟩ : MethodName) jdk_65_method_59_code 8 (some .int) :: ws) ({ frames := 0, cells := 0, slots := 0, locals := 0 } : Room)) (fun a U => a = #[(.ref la), (.int 2), (.int 4), (.int x2)] ∧ Z.Warmed39 U.vm ∧ U.heap = h0) (fun _ _ _ _ _ => True) (fun _ U o U' => ∃ v L, o = .returned v ∧ Q7_2_4_0 Z la x2 kk x0 x1 x3 h0 n0 v U'.heap L ∧ FrameEnd U o U' L ({ frames := 0, cells := 0, slots := 0, locals := 0 } : Room).cells ({ frames := 0, cells := 0, slots := 0, locals := 0 } : Room).slots) := by
  refine MetFree.of_bodySF (plainFor_of_name pn1) hisR ?_
  intro p e s m args below meth c s₁ Bd hml0 hP hK
  obtain ⟨rfl, hZ, hh⟩ := hP
  have hx := Bd.exec
  have hby := Bd.bytes
  have hml : c.maxLocals = 8 := hml0
  have hown : s.vm.findClass "java/util/Arrays" = some m.cls := findClass_of_methodNamed Bd.named
  have hnm := (name_of_methodNamed Bd.named Bd.method).1
  have X0 : Stand p l e ({ frames := 0, cells := 0, slots := 0, locals := 0 } : Room) s m #[(.ref la), (.int 2), (.int 4), (.int x2)] below meth c s₁ [] 0 0 := Stand.of_body Bd
  have e0 : s₁.heap = h0 := by rw [← hh, Bd.state]; rfl
  have N0 := Fr.nil n0
  have pre0 : ∀ t, Steps p.tables e below (s₁.setTop (mkF m 0 #[.val (.ref la), .val (.int 2), .val (.int 4), .val (.int x2), .unset, .unset, .unset, .unset] [])) t → Steps p.tables e below (s₁.setTop (entryFrame m #[(.ref la), (.int 2), (.int 4), (.int x2)] 8)) t := fun t k => castTop (ef7_2_4_0 m la x2) k
  obtain ⟨cl101, Ar101, qk101, Sz101, Nz101, Hh101, Gg101⟩ := id V_la
  have hin101 : ¬ ((2 : Int32) < 0 ∨ cl101.slots.size ≤ ((2 : Int32)).toNatClampNeg) := inb_of Sz101 ⟨by decide, by decide⟩
  have hat101 : cl101.slots[((2 : Int32)).toNatClampNeg]? = some (.int x2) := Has.at Hh101 hin101 rfl
  obtain ⟨fs, hr, hrun, hended, hW, hsame⟩ := X0.leave (v := some (.int 2)) (fun h => by rw [Bd.returns] at h; cases h)
  refine ⟨_, _, pre0 _ ?_, hrun, hended, _, _, rfl, ?_, ⟨_, rfl⟩, hW, hsame.mono (by decide) (by decide)⟩
  · show own_S p e below s₁ m 0 #[oR la, oI 2, oI 4, oI x2, oU, oU, oU, oU] [] _
    refine XS.iloadN X0.here hx rfl (hb hby d7_0) rfl ?_
    show own_S p e below s₁ m 1 #[oR la, oI 2, oI 4, oI x2, oU, oU, oU, oU] [(.int 2)] _
    refine XS.istore X0.here hx rfl (hb hby d7_1) rfl (l' := #[.val (.ref la), .val (.int 2), .val (.int 4), .val (.int x2), .val (.int 2), .unset, .unset, .unset]) rfl ?_
    show own_S p e below s₁ m 3 #[oR la, oI 2, oI 4, oI x2, oI 2, oU, oU, oU] [] _
    refine XS.iloadN X0.here hx rfl (hb hby d7_3) rfl ?_
    show own_S p e below s₁ m 4 #[oR la, oI 2, oI 4, oI x2, oI 2, oU, oU, oU] [(.int 4)] _
    refine XS.iconst X0.here hx rfl (hb hby d7_4) ?_
    show own_S p e below s₁ m 5 #[oR la, oI 2, oI 4, oI x2, oI 2, oU, oU, oU] [(.int 1), (.int 4)] _
    refine XS.isub X0.here hx rfl (hb hby d7_5) rfl ?_
    show own_S p e below s₁ m 6 #[oR la, oI 2, oI 4, oI x2, oI 2, oU, oU, oU] [(.int ((4 : Int32) - (1 : Int32)))] _
    refine reI (by decide : ((4 : Int32) - (1 : Int32)) = (3 : Int32)) ?_
    show own_S p e below s₁ m 6 #[oR la, oI 2, oI 4, oI x2, oI 2, oU, oU, oU] [(.int 3)] _
    refine XS.istore X0.here hx rfl (hb hby d7_6) rfl (l' := #[.val (.ref la), .val (.int 2), .val (.int 4), .val (.int x2), .val (.int 2), .val (.int 3), .unset, .unset]) rfl ?_
    show own_S p e below s₁ m 8 #[oR la, oI 2, oI 4, oI x2, oI 2, oI 3, oU, oU] [] _
    refine XS.iload X0.here hx rfl (hb hby d7_8) rfl ?_
    show own_S p e below s₁ m 10 #[oR la, oI 2, oI 4, oI x2, oI 2, oI 3, oU, oU] [(.int 2)] _
    refine XS.iload X0.here hx rfl (hb hby d7_10) rfl ?_
    show own_S p e below s₁ m 12 #[oR la, oI 2, oI 4, oI x2, oI 2, oI 3, oU, oU] [(.int 3), (.int 2)] _
    refine XS.icmpNo X0.here hx rfl (hb hby d7_12) rfl (flt (by decide : ¬ ((3 : Int32) < (2 : Int32)))).2.2.1 ?_
    show own_S p e below s₁ m 15 #[oR la, oI 2, oI 4, oI x2, oI 2, oI 3, oU, oU] [] _
    refine XS.iload X0.here hx rfl (hb hby d7_15) rfl ?_
    show own_S p e below s₁ m 17 #[oR la, oI 2, oI 4, oI x2, oI 2, oI 3, oU, oU] [(.int 2)] _
    refine XS.iload X0.here hx rfl (hb hby d7_17) rfl ?_
    show own_S p e below s₁ m 19 #[oR la, oI 2, oI 4, oI x2, oI 2, oI 3, oU, oU] [(.int 3), (.int 2)] _
    refine XS.iadd X0.here hx rfl (hb hby d7_19) rfl ?_
    show own_S p e below s₁ m 20 #[oR la, oI 2, oI 4, oI x2, oI 2, oI 3, oU, oU] [(.int ((2 : Int32) + (3 : Int32)))] _
    refine reI (by decide : ((2 : Int32) + (3 : Int32)) = (5 : Int32)) ?_
    show own_S p e below s₁ m 20 #[oR la, oI 2, oI 4, oI x2, oI 2, oI 3, oU, oU] [(.int 5)] _
    refine XS.iconst X0.here hx rfl (hb hby d7_20) ?_
    show own_S p e below s₁ m 21 #[oR la, oI 2, oI 4, oI x2, oI 2, oI 3, oU, oU] [(.int 1), (.int 5)] _
    refine XS.iushr X0.here hx rfl (hb hby d7_21) rfl ?_
    show own_S p e below s₁ m 22 #[oR la, oI 2, oI 4, oI x2, oI 2, oI 3, oU, oU] [(.int (((5 : Int32).toUInt32 >>> ((1 : Int32) &&& 31).toUInt32).toInt32))] _
    refine reI (by decide : (((5 : Int32).toUInt32 >>> ((1 : Int32) &&& 31).toUInt32).toInt32) = (2 : Int32)) ?_
    show own_S p e below s₁ m 22 #[oR la, oI 2, oI 4, oI x2, oI 2, oI 3, oU, oU] [(.int 2)] _
    refine XS.istore X0.here hx rfl (hb hby d7_22) rfl (l' := #[.val (.ref la), .val (.int 2), .val (.int 4), .val (.int x2), .val (.int 2), .val (.int 3), .val (.int 2), .unset]) rfl ?_
    show own_S p e below s₁ m 24 #[oR la, oI 2, oI 4, oI x2, oI 2, oI 3, oI 2, oU] [] _
    refine XS.aloadN X0.here hx rfl (hb hby d7_24) rfl rfl ?_
    show own_S p e below s₁ m 25 #[oR la, oI 2, oI 4, oI x2, oI 2, oI 3, oI 2, oU] [(.ref la)] _
    refine XS.iload X0.here hx rfl (hb hby d7_25) rfl ?_
    show own_S p e below s₁ m 27 #[oR la, oI 2, oI 4, oI x2, oI 2, oI 3, oI 2, oU] [(.int 2), (.ref la)] _
    refine X0.iaload hx (j := (2 : Int32)) (v := (.int x2)) (by rw [e0]; exact Ar101.1) (State.isArrayOf_alike hZ.alike Ar101.2.1) Ar101.2.2 hin101 hat101 (g := (mkF m 27 #[.val (.ref la), .val (.int 2), .val (.int 4), .val (.int x2), .val (.int 2), .val (.int 3), .val (.int 2), .unset] [(.int 2), (.ref la)])) rfl rfl (hb hby d7_27) _ ?_
    show own_S p e below s₁ m 28 #[oR la, oI 2, oI 4, oI x2, oI 2, oI 3, oI 2, oU] [(.int x2)] _
    refine XS.istore X0.here hx rfl (hb hby d7_28) rfl (l' := #[.val (.ref la), .val (.int 2), .val (.int 4), .val (.int x2), .val (.int 2), .val (.int 3), .val (.int 2), .val (.int x2)]) rfl ?_
    show own_S p e below s₁ m 30 #[oR la, oI 2, oI 4, oI x2, oI 2, oI 3, oI 2, oI x2] [] _
    refine XS.iload X0.here hx rfl (hb hby d7_30) rfl ?_
    show own_S p e below s₁ m 32 #[oR la, oI 2, oI 4, oI x2, oI 2, oI 3, oI 2, oI x2] [(.int x2)] _
    refine XS.iloadN X0.here hx rfl (hb hby d7_32) rfl ?_
    show own_S p e below s₁ m 33 #[oR la, oI 2, oI 4, oI x2, oI 2, oI 3, oI 2, oI x2] [(.int x2), (.int x2)] _
    refine XS.icmpYes X0.here hx rfl (pc0 := 33) (pc' := 45) rfl (hb hby d7_33) rfl (flt (own_irr : ¬ (x2 < x2))).2.1 (by decide) (by decide) ?_
    show own_S p e below s₁ m 45 #[oR la, oI 2, oI 4, oI x2, oI 2, oI 3, oI 2, oI x2] [] _
    refine XS.iload X0.here hx rfl (hb hby d7_45) rfl ?_
    show own_S p e below s₁ m 47 #[oR la, oI 2, oI 4, oI x2, oI 2, oI 3, oI 2, oI x2] [(.int x2)] _
    refine XS.iloadN X0.here hx rfl (hb hby d7_47) rfl ?_
    show own_S p e below s₁ m 48 #[oR la, oI 2, oI 4, oI x2, oI 2, oI 3, oI 2, oI x2] [(.int x2), (.int x2)] _
    refine XS.icmpYes X0.here hx rfl (pc0 := 48) (pc' := 60) rfl (hb hby d7_48) rfl (flt (own_irr : ¬ (x2 < x2))).2.2.2 (by decide) (by decide) ?_
    show own_S p e below s₁ m 60 #[oR la, oI 2, oI 4, oI x2, oI 2, oI 3, oI 2, oI x2] [] _
    refine XS.iload X0.here hx rfl (hb hby d7_60) rfl ?_
    show own_S p e below s₁ m 62 #[oR la, oI 2, oI 4, oI x2, oI 2, oI 3, oI 2, oI x2] [(.int 2)] _
    exact retOut X0 hx Bd.returns rfl (Or.inl ⟨rfl, Or.inl rfl, _, rfl⟩) (hb hby d7_62) hr
  · show Q7_2_4_0 Z la x2 kk x0 x1 x3 h0 n0 _ s₁.heap _
    rw [e0]
    exact ⟨rfl, N0, rfl⟩
theorem ef7_2_4_1 (m : MethodId) (la : Addr) (x3 : Int32) : entryFrame m #[(.ref la), (.int 2), (.int 4), (.int x3)] 8 = mkF m 0 #[.val (.ref la), .val (.int 2), .val (.int 4), .val (.int x3), .unset, .unset, .unset, .unset] [] := by first | (simp [entryFrame, mkF, argsToLocals, Value.category]; done) | rfl
def Q7_2_4_1 (Z : State) (la : Addr) (x3 : Int32) (kk : ClassId) (x0 : Int32) (x1 : Int32) (x2 : Int32) (h0 : Heap) (n0 : Nat) (v : Option Value) (h : Heap) (L : List Loc) : Prop := v = some (.int 3) ∧ Fr n0 L ∧ (h = h0)
set_option maxRecDepth 65536 in
set_option maxHeartbeats 40000000 in
theorem rm7_2_4_1 (l : Launch) (Z : State) (a0 : Array Value) (hw : ∀ d ∈ tables_1, d.before a0 Z = true) (ws : List Jvm.Cond) (la : Addr) (x3 : Int32) (kk : ClassId) (x0 : Int32) (x1 : Int32) (x2 : Int32) (h0 : Heap) (n0 : Nat) (Z0 : n0 ≤ h0.size) (V_la : Arv Z h0 la kk .int (4 : Int32) [(.int x0), (.int x1), (.int x2), (.int x3)] (.int 0)) (o01 : x0 < x1) (o02 : x0 < x2) (o03 : x0 < x3) (o12 : x1 < x2) (o13 : x1 < x3) (o23 : x2 < x3) :
    MetFree l (⟨"java/util/Arrays", "binarySearch0", "([IIII)I"⟩ : MethodName) (head1 (Jvm.Cond.code (⟨"java/util/Arrays", "binarySearch0", "([IIII)I"⟩ : MethodName) jdk_65_method_59_code 8 (some .int) :: ws) ({ frames := 0, cells := 0, slots := 0, locals := 0 } : Room)) (fun a U => a = #[(.ref la), (.int 2), (.int 4), (.int x3)] ∧ Z.Warmed39 U.vm ∧ U.heap = h0) (fun _ _ _ _ _ => True) (fun _ U o U' => ∃ v L, o = .returned v ∧ Q7_2_4_1 Z la x3 kk x0 x1 x2 h0 n0 v U'.heap L ∧ FrameEnd U o U' L ({ frames := 0, cells := 0, slots := 0, locals := 0 } : Room).cells ({ frames := 0, cells := 0, slots := 0, locals := 0 } : Room).slots) := by
  refine MetFree.of_bodySF (plainFor_of_name pn1) hisR ?_
  intro p e s m args below meth c s₁ Bd hml0 hP hK
  obtain ⟨rfl, hZ, hh⟩ := hP
  have hx := Bd.exec
  have hby := Bd.bytes
  have hml : c.maxLocals = 8 := hml0
  have hown : s.vm.findClass "java/util/Arrays" = some m.cls := findClass_of_methodNamed Bd.named
  have hnm := (name_of_methodNamed Bd.named Bd.method).1
  have X0 : Stand p l e ({ frames := 0, cells := 0, slots := 0, locals := 0 } : Room) s m #[(.ref la), (.int 2), (.int 4), (.int x3)] below meth c s₁ [] 0 0 := Stand.of_body Bd
  have e0 : s₁.heap = h0 := by rw [← hh, Bd.state]; rfl
  have N0 := Fr.nil n0
  have pre0 : ∀ t, Steps p.tables e below (s₁.setTop (mkF m 0 #[.val (.ref la), .val (.int 2), .val (.int 4), .val (.int x3), .unset, .unset, .unset, .unset] [])) t → Steps p.tables e below (s₁.setTop (entryFrame m #[(.ref la), (.int 2), (.int 4), (.int x3)] 8)) t := fun t k => castTop (ef7_2_4_1 m la x3) k
  obtain ⟨cl101, Ar101, qk101, Sz101, Nz101, Hh101, Gg101⟩ := id V_la
  have hin101 : ¬ ((2 : Int32) < 0 ∨ cl101.slots.size ≤ ((2 : Int32)).toNatClampNeg) := inb_of Sz101 ⟨by decide, by decide⟩
  have hat101 : cl101.slots[((2 : Int32)).toNatClampNeg]? = some (.int x2) := Has.at Hh101 hin101 rfl
  obtain ⟨cl102, Ar102, qk102, Sz102, Nz102, Hh102, Gg102⟩ := id V_la
  have hin102 : ¬ ((3 : Int32) < 0 ∨ cl102.slots.size ≤ ((3 : Int32)).toNatClampNeg) := inb_of Sz102 ⟨by decide, by decide⟩
  have hat102 : cl102.slots[((3 : Int32)).toNatClampNeg]? = some (.int x3) := Has.at Hh102 hin102 rfl
  obtain ⟨fs, hr, hrun, hended, hW, hsame⟩ := X0.leave (v := some (.int 3)) (fun h => by rw [Bd.returns] at h; cases h)
  refine ⟨_, _, pre0 _ ?_, hrun, hended, _, _, rfl, ?_, ⟨_, rfl⟩, hW, hsame.mono (by decide) (by decide)⟩
  · show own_S p e below s₁ m 0 #[oR la, oI 2, oI 4, oI x3, oU, oU, oU, oU] [] _
    refine XS.iloadN X0.here hx rfl (hb hby d7_0) rfl ?_
    show own_S p e below s₁ m 1 #[oR la, oI 2, oI 4, oI x3, oU, oU, oU, oU] [(.int 2)] _
    refine XS.istore X0.here hx rfl (hb hby d7_1) rfl (l' := #[.val (.ref la), .val (.int 2), .val (.int 4), .val (.int x3), .val (.int 2), .unset, .unset, .unset]) rfl ?_
    show own_S p e below s₁ m 3 #[oR la, oI 2, oI 4, oI x3, oI 2, oU, oU, oU] [] _
    refine XS.iloadN X0.here hx rfl (hb hby d7_3) rfl ?_
    show own_S p e below s₁ m 4 #[oR la, oI 2, oI 4, oI x3, oI 2, oU, oU, oU] [(.int 4)] _
    refine XS.iconst X0.here hx rfl (hb hby d7_4) ?_
    show own_S p e below s₁ m 5 #[oR la, oI 2, oI 4, oI x3, oI 2, oU, oU, oU] [(.int 1), (.int 4)] _
    refine XS.isub X0.here hx rfl (hb hby d7_5) rfl ?_
    show own_S p e below s₁ m 6 #[oR la, oI 2, oI 4, oI x3, oI 2, oU, oU, oU] [(.int ((4 : Int32) - (1 : Int32)))] _
    refine reI (by decide : ((4 : Int32) - (1 : Int32)) = (3 : Int32)) ?_
    show own_S p e below s₁ m 6 #[oR la, oI 2, oI 4, oI x3, oI 2, oU, oU, oU] [(.int 3)] _
    refine XS.istore X0.here hx rfl (hb hby d7_6) rfl (l' := #[.val (.ref la), .val (.int 2), .val (.int 4), .val (.int x3), .val (.int 2), .val (.int 3), .unset, .unset]) rfl ?_
    show own_S p e below s₁ m 8 #[oR la, oI 2, oI 4, oI x3, oI 2, oI 3, oU, oU] [] _
    refine XS.iload X0.here hx rfl (hb hby d7_8) rfl ?_
    show own_S p e below s₁ m 10 #[oR la, oI 2, oI 4, oI x3, oI 2, oI 3, oU, oU] [(.int 2)] _
    refine XS.iload X0.here hx rfl (hb hby d7_10) rfl ?_
    show own_S p e below s₁ m 12 #[oR la, oI 2, oI 4, oI x3, oI 2, oI 3, oU, oU] [(.int 3), (.int 2)] _
    refine XS.icmpNo X0.here hx rfl (hb hby d7_12) rfl (flt (by decide : ¬ ((3 : Int32) < (2 : Int32)))).2.2.1 ?_
    show own_S p e below s₁ m 15 #[oR la, oI 2, oI 4, oI x3, oI 2, oI 3, oU, oU] [] _
    refine XS.iload X0.here hx rfl (hb hby d7_15) rfl ?_
    show own_S p e below s₁ m 17 #[oR la, oI 2, oI 4, oI x3, oI 2, oI 3, oU, oU] [(.int 2)] _
    refine XS.iload X0.here hx rfl (hb hby d7_17) rfl ?_
    show own_S p e below s₁ m 19 #[oR la, oI 2, oI 4, oI x3, oI 2, oI 3, oU, oU] [(.int 3), (.int 2)] _
    refine XS.iadd X0.here hx rfl (hb hby d7_19) rfl ?_
    show own_S p e below s₁ m 20 #[oR la, oI 2, oI 4, oI x3, oI 2, oI 3, oU, oU] [(.int ((2 : Int32) + (3 : Int32)))] _
    refine reI (by decide : ((2 : Int32) + (3 : Int32)) = (5 : Int32)) ?_
    show own_S p e below s₁ m 20 #[oR la, oI 2, oI 4, oI x3, oI 2, oI 3, oU, oU] [(.int 5)] _
    refine XS.iconst X0.here hx rfl (hb hby d7_20) ?_
    show own_S p e below s₁ m 21 #[oR la, oI 2, oI 4, oI x3, oI 2, oI 3, oU, oU] [(.int 1), (.int 5)] _
    refine XS.iushr X0.here hx rfl (hb hby d7_21) rfl ?_
    show own_S p e below s₁ m 22 #[oR la, oI 2, oI 4, oI x3, oI 2, oI 3, oU, oU] [(.int (((5 : Int32).toUInt32 >>> ((1 : Int32) &&& 31).toUInt32).toInt32))] _
    refine reI (by decide : (((5 : Int32).toUInt32 >>> ((1 : Int32) &&& 31).toUInt32).toInt32) = (2 : Int32)) ?_
    show own_S p e below s₁ m 22 #[oR la, oI 2, oI 4, oI x3, oI 2, oI 3, oU, oU] [(.int 2)] _
    refine XS.istore X0.here hx rfl (hb hby d7_22) rfl (l' := #[.val (.ref la), .val (.int 2), .val (.int 4), .val (.int x3), .val (.int 2), .val (.int 3), .val (.int 2), .unset]) rfl ?_
    show own_S p e below s₁ m 24 #[oR la, oI 2, oI 4, oI x3, oI 2, oI 3, oI 2, oU] [] _
    refine XS.aloadN X0.here hx rfl (hb hby d7_24) rfl rfl ?_
    show own_S p e below s₁ m 25 #[oR la, oI 2, oI 4, oI x3, oI 2, oI 3, oI 2, oU] [(.ref la)] _
    refine XS.iload X0.here hx rfl (hb hby d7_25) rfl ?_
    show own_S p e below s₁ m 27 #[oR la, oI 2, oI 4, oI x3, oI 2, oI 3, oI 2, oU] [(.int 2), (.ref la)] _
    refine X0.iaload hx (j := (2 : Int32)) (v := (.int x2)) (by rw [e0]; exact Ar101.1) (State.isArrayOf_alike hZ.alike Ar101.2.1) Ar101.2.2 hin101 hat101 (g := (mkF m 27 #[.val (.ref la), .val (.int 2), .val (.int 4), .val (.int x3), .val (.int 2), .val (.int 3), .val (.int 2), .unset] [(.int 2), (.ref la)])) rfl rfl (hb hby d7_27) _ ?_
    show own_S p e below s₁ m 28 #[oR la, oI 2, oI 4, oI x3, oI 2, oI 3, oI 2, oU] [(.int x2)] _
    refine XS.istore X0.here hx rfl (hb hby d7_28) rfl (l' := #[.val (.ref la), .val (.int 2), .val (.int 4), .val (.int x3), .val (.int 2), .val (.int 3), .val (.int 2), .val (.int x2)]) rfl ?_
    show own_S p e below s₁ m 30 #[oR la, oI 2, oI 4, oI x3, oI 2, oI 3, oI 2, oI x2] [] _
    refine XS.iload X0.here hx rfl (hb hby d7_30) rfl ?_
    show own_S p e below s₁ m 32 #[oR la, oI 2, oI 4, oI x3, oI 2, oI 3, oI 2, oI x2] [(.int x2)] _
    refine XS.iloadN X0.here hx rfl (hb hby d7_32) rfl ?_
    show own_S p e below s₁ m 33 #[oR la, oI 2, oI 4, oI x3, oI 2, oI 3, oI 2, oI x2] [(.int x3), (.int x2)] _
    refine XS.icmpNo X0.here hx rfl (hb hby d7_33) rfl (tlt (o23 : x2 < x3)).2.1 ?_
    show own_S p e below s₁ m 36 #[oR la, oI 2, oI 4, oI x3, oI 2, oI 3, oI 2, oI x2] [] _
    refine XS.iload X0.here hx rfl (hb hby d7_36) rfl ?_
    show own_S p e below s₁ m 38 #[oR la, oI 2, oI 4, oI x3, oI 2, oI 3, oI 2, oI x2] [(.int 2)] _
    refine XS.iconst X0.here hx rfl (hb hby d7_38) ?_
    show own_S p e below s₁ m 39 #[oR la, oI 2, oI 4, oI x3, oI 2, oI 3, oI 2, oI x2] [(.int 1), (.int 2)] _
    refine XS.iadd X0.here hx rfl (hb hby d7_39) rfl ?_
    show own_S p e below s₁ m 40 #[oR la, oI 2, oI 4, oI x3, oI 2, oI 3, oI 2, oI x2] [(.int ((2 : Int32) + (1 : Int32)))] _
    refine reI (by decide : ((2 : Int32) + (1 : Int32)) = (3 : Int32)) ?_
    show own_S p e below s₁ m 40 #[oR la, oI 2, oI 4, oI x3, oI 2, oI 3, oI 2, oI x2] [(.int 3)] _
    refine XS.istore X0.here hx rfl (hb hby d7_40) rfl (l' := #[.val (.ref la), .val (.int 2), .val (.int 4), .val (.int x3), .val (.int 3), .val (.int 3), .val (.int 2), .val (.int x2)]) rfl ?_
    show own_S p e below s₁ m 42 #[oR la, oI 2, oI 4, oI x3, oI 3, oI 3, oI 2, oI x2] [] _
    refine XS.goto X0.here hx rfl (pc0 := 42) (pc' := 63) rfl (hb hby d7_42) (by decide) (by decide) ?_
    show own_S p e below s₁ m 63 #[oR la, oI 2, oI 4, oI x3, oI 3, oI 3, oI 2, oI x2] [] _
    refine XS.goto X0.here hx rfl (pc0 := 63) (pc' := 8) rfl (hb hby d7_63) (by decide) (by decide) ?_
    show own_S p e below s₁ m 8 #[oR la, oI 2, oI 4, oI x3, oI 3, oI 3, oI 2, oI x2] [] _
    refine XS.iload X0.here hx rfl (hb hby d7_8) rfl ?_
    show own_S p e below s₁ m 10 #[oR la, oI 2, oI 4, oI x3, oI 3, oI 3, oI 2, oI x2] [(.int 3)] _
    refine XS.iload X0.here hx rfl (hb hby d7_10) rfl ?_
    show own_S p e below s₁ m 12 #[oR la, oI 2, oI 4, oI x3, oI 3, oI 3, oI 2, oI x2] [(.int 3), (.int 3)] _
    refine XS.icmpNo X0.here hx rfl (hb hby d7_12) rfl (flt (by decide : ¬ ((3 : Int32) < (3 : Int32)))).2.2.1 ?_
    show own_S p e below s₁ m 15 #[oR la, oI 2, oI 4, oI x3, oI 3, oI 3, oI 2, oI x2] [] _
    refine XS.iload X0.here hx rfl (hb hby d7_15) rfl ?_
    show own_S p e below s₁ m 17 #[oR la, oI 2, oI 4, oI x3, oI 3, oI 3, oI 2, oI x2] [(.int 3)] _
    refine XS.iload X0.here hx rfl (hb hby d7_17) rfl ?_
    show own_S p e below s₁ m 19 #[oR la, oI 2, oI 4, oI x3, oI 3, oI 3, oI 2, oI x2] [(.int 3), (.int 3)] _
    refine XS.iadd X0.here hx rfl (hb hby d7_19) rfl ?_
    show own_S p e below s₁ m 20 #[oR la, oI 2, oI 4, oI x3, oI 3, oI 3, oI 2, oI x2] [(.int ((3 : Int32) + (3 : Int32)))] _
    refine reI (by decide : ((3 : Int32) + (3 : Int32)) = (6 : Int32)) ?_
    show own_S p e below s₁ m 20 #[oR la, oI 2, oI 4, oI x3, oI 3, oI 3, oI 2, oI x2] [(.int 6)] _
    refine XS.iconst X0.here hx rfl (hb hby d7_20) ?_
    show own_S p e below s₁ m 21 #[oR la, oI 2, oI 4, oI x3, oI 3, oI 3, oI 2, oI x2] [(.int 1), (.int 6)] _
    refine XS.iushr X0.here hx rfl (hb hby d7_21) rfl ?_
    show own_S p e below s₁ m 22 #[oR la, oI 2, oI 4, oI x3, oI 3, oI 3, oI 2, oI x2] [(.int (((6 : Int32).toUInt32 >>> ((1 : Int32) &&& 31).toUInt32).toInt32))] _
    refine reI (by decide : (((6 : Int32).toUInt32 >>> ((1 : Int32) &&& 31).toUInt32).toInt32) = (3 : Int32)) ?_
    show own_S p e below s₁ m 22 #[oR la, oI 2, oI 4, oI x3, oI 3, oI 3, oI 2, oI x2] [(.int 3)] _
    refine XS.istore X0.here hx rfl (hb hby d7_22) rfl (l' := #[.val (.ref la), .val (.int 2), .val (.int 4), .val (.int x3), .val (.int 3), .val (.int 3), .val (.int 3), .val (.int x2)]) rfl ?_
    show own_S p e below s₁ m 24 #[oR la, oI 2, oI 4, oI x3, oI 3, oI 3, oI 3, oI x2] [] _
    refine XS.aloadN X0.here hx rfl (hb hby d7_24) rfl rfl ?_
    show own_S p e below s₁ m 25 #[oR la, oI 2, oI 4, oI x3, oI 3, oI 3, oI 3, oI x2] [(.ref la)] _
    refine XS.iload X0.here hx rfl (hb hby d7_25) rfl ?_
    show own_S p e below s₁ m 27 #[oR la, oI 2, oI 4, oI x3, oI 3, oI 3, oI 3, oI x2] [(.int 3), (.ref la)] _
    refine X0.iaload hx (j := (3 : Int32)) (v := (.int x3)) (by rw [e0]; exact Ar102.1) (State.isArrayOf_alike hZ.alike Ar102.2.1) Ar102.2.2 hin102 hat102 (g := (mkF m 27 #[.val (.ref la), .val (.int 2), .val (.int 4), .val (.int x3), .val (.int 3), .val (.int 3), .val (.int 3), .val (.int x2)] [(.int 3), (.ref la)])) rfl rfl (hb hby d7_27) _ ?_
    show own_S p e below s₁ m 28 #[oR la, oI 2, oI 4, oI x3, oI 3, oI 3, oI 3, oI x2] [(.int x3)] _
    refine XS.istore X0.here hx rfl (hb hby d7_28) rfl (l' := #[.val (.ref la), .val (.int 2), .val (.int 4), .val (.int x3), .val (.int 3), .val (.int 3), .val (.int 3), .val (.int x3)]) rfl ?_
    show own_S p e below s₁ m 30 #[oR la, oI 2, oI 4, oI x3, oI 3, oI 3, oI 3, oI x3] [] _
    refine XS.iload X0.here hx rfl (hb hby d7_30) rfl ?_
    show own_S p e below s₁ m 32 #[oR la, oI 2, oI 4, oI x3, oI 3, oI 3, oI 3, oI x3] [(.int x3)] _
    refine XS.iloadN X0.here hx rfl (hb hby d7_32) rfl ?_
    show own_S p e below s₁ m 33 #[oR la, oI 2, oI 4, oI x3, oI 3, oI 3, oI 3, oI x3] [(.int x3), (.int x3)] _
    refine XS.icmpYes X0.here hx rfl (pc0 := 33) (pc' := 45) rfl (hb hby d7_33) rfl (flt (own_irr : ¬ (x3 < x3))).2.1 (by decide) (by decide) ?_
    show own_S p e below s₁ m 45 #[oR la, oI 2, oI 4, oI x3, oI 3, oI 3, oI 3, oI x3] [] _
    refine XS.iload X0.here hx rfl (hb hby d7_45) rfl ?_
    show own_S p e below s₁ m 47 #[oR la, oI 2, oI 4, oI x3, oI 3, oI 3, oI 3, oI x3] [(.int x3)] _
    refine XS.iloadN X0.here hx rfl (hb hby d7_47) rfl ?_
    show own_S p e below s₁ m 48 #[oR la, oI 2, oI 4, oI x3, oI 3, oI 3, oI 3, oI x3] [(.int x3), (.int x3)] _
    refine XS.icmpYes X0.here hx rfl (pc0 := 48) (pc' := 60) rfl (hb hby d7_48) rfl (flt (own_irr : ¬ (x3 < x3))).2.2.2 (by decide) (by decide) ?_
    show own_S p e below s₁ m 60 #[oR la, oI 2, oI 4, oI x3, oI 3, oI 3, oI 3, oI x3] [] _
    refine XS.iload X0.here hx rfl (hb hby d7_60) rfl ?_
    show own_S p e below s₁ m 62 #[oR la, oI 2, oI 4, oI x3, oI 3, oI 3, oI 3, oI x3] [(.int 3)] _
    exact retOut X0 hx Bd.returns rfl (Or.inl ⟨rfl, Or.inl rfl, _, rfl⟩) (hb hby d7_62) hr
  · show Q7_2_4_1 Z la x3 kk x0 x1 x2 h0 n0 _ s₁.heap _
    rw [e0]
    exact ⟨rfl, N0, rfl⟩
theorem ef7_3_4_0 (m : MethodId) (la : Addr) (x3 : Int32) : entryFrame m #[(.ref la), (.int 3), (.int 4), (.int x3)] 8 = mkF m 0 #[.val (.ref la), .val (.int 3), .val (.int 4), .val (.int x3), .unset, .unset, .unset, .unset] [] := by first | (simp [entryFrame, mkF, argsToLocals, Value.category]; done) | rfl
def Q7_3_4_0 (Z : State) (la : Addr) (x3 : Int32) (kk : ClassId) (x0 : Int32) (x1 : Int32) (x2 : Int32) (h0 : Heap) (n0 : Nat) (v : Option Value) (h : Heap) (L : List Loc) : Prop := v = some (.int 3) ∧ Fr n0 L ∧ (h = h0)
set_option maxRecDepth 65536 in
set_option maxHeartbeats 40000000 in
theorem rm7_3_4_0 (l : Launch) (Z : State) (a0 : Array Value) (hw : ∀ d ∈ tables_1, d.before a0 Z = true) (ws : List Jvm.Cond) (la : Addr) (x3 : Int32) (kk : ClassId) (x0 : Int32) (x1 : Int32) (x2 : Int32) (h0 : Heap) (n0 : Nat) (Z0 : n0 ≤ h0.size) (V_la : Arv Z h0 la kk .int (4 : Int32) [(.int x0), (.int x1), (.int x2), (.int x3)] (.int 0)) (o01 : x0 < x1) (o02 : x0 < x2) (o03 : x0 < x3) (o12 : x1 < x2) (o13 : x1 < x3) (o23 : x2 < x3) :
    MetFree l (⟨"java/util/Arrays", "binarySearch0", "([IIII)I"⟩ : MethodName) (head1 (Jvm.Cond.code (⟨"java/util/Arrays", "binarySearch0", "([IIII)I"⟩ : MethodName) jdk_65_method_59_code 8 (some .int) :: ws) ({ frames := 0, cells := 0, slots := 0, locals := 0 } : Room)) (fun a U => a = #[(.ref la), (.int 3), (.int 4), (.int x3)] ∧ Z.Warmed39 U.vm ∧ U.heap = h0) (fun _ _ _ _ _ => True) (fun _ U o U' => ∃ v L, o = .returned v ∧ Q7_3_4_0 Z la x3 kk x0 x1 x2 h0 n0 v U'.heap L ∧ FrameEnd U o U' L ({ frames := 0, cells := 0, slots := 0, locals := 0 } : Room).cells ({ frames := 0, cells := 0, slots := 0, locals := 0 } : Room).slots) := by
  refine MetFree.of_bodySF (plainFor_of_name pn1) hisR ?_
  intro p e s m args below meth c s₁ Bd hml0 hP hK
  obtain ⟨rfl, hZ, hh⟩ := hP
  have hx := Bd.exec
  have hby := Bd.bytes
  have hml : c.maxLocals = 8 := hml0
  have hown : s.vm.findClass "java/util/Arrays" = some m.cls := findClass_of_methodNamed Bd.named
  have hnm := (name_of_methodNamed Bd.named Bd.method).1
  have X0 : Stand p l e ({ frames := 0, cells := 0, slots := 0, locals := 0 } : Room) s m #[(.ref la), (.int 3), (.int 4), (.int x3)] below meth c s₁ [] 0 0 := Stand.of_body Bd
  have e0 : s₁.heap = h0 := by rw [← hh, Bd.state]; rfl
  have N0 := Fr.nil n0
  have pre0 : ∀ t, Steps p.tables e below (s₁.setTop (mkF m 0 #[.val (.ref la), .val (.int 3), .val (.int 4), .val (.int x3), .unset, .unset, .unset, .unset] [])) t → Steps p.tables e below (s₁.setTop (entryFrame m #[(.ref la), (.int 3), (.int 4), (.int x3)] 8)) t := fun t k => castTop (ef7_3_4_0 m la x3) k
  obtain ⟨cl101, Ar101, qk101, Sz101, Nz101, Hh101, Gg101⟩ := id V_la
  have hin101 : ¬ ((3 : Int32) < 0 ∨ cl101.slots.size ≤ ((3 : Int32)).toNatClampNeg) := inb_of Sz101 ⟨by decide, by decide⟩
  have hat101 : cl101.slots[((3 : Int32)).toNatClampNeg]? = some (.int x3) := Has.at Hh101 hin101 rfl
  obtain ⟨fs, hr, hrun, hended, hW, hsame⟩ := X0.leave (v := some (.int 3)) (fun h => by rw [Bd.returns] at h; cases h)
  refine ⟨_, _, pre0 _ ?_, hrun, hended, _, _, rfl, ?_, ⟨_, rfl⟩, hW, hsame.mono (by decide) (by decide)⟩
  · show own_S p e below s₁ m 0 #[oR la, oI 3, oI 4, oI x3, oU, oU, oU, oU] [] _
    refine XS.iloadN X0.here hx rfl (hb hby d7_0) rfl ?_
    show own_S p e below s₁ m 1 #[oR la, oI 3, oI 4, oI x3, oU, oU, oU, oU] [(.int 3)] _
    refine XS.istore X0.here hx rfl (hb hby d7_1) rfl (l' := #[.val (.ref la), .val (.int 3), .val (.int 4), .val (.int x3), .val (.int 3), .unset, .unset, .unset]) rfl ?_
    show own_S p e below s₁ m 3 #[oR la, oI 3, oI 4, oI x3, oI 3, oU, oU, oU] [] _
    refine XS.iloadN X0.here hx rfl (hb hby d7_3) rfl ?_
    show own_S p e below s₁ m 4 #[oR la, oI 3, oI 4, oI x3, oI 3, oU, oU, oU] [(.int 4)] _
    refine XS.iconst X0.here hx rfl (hb hby d7_4) ?_
    show own_S p e below s₁ m 5 #[oR la, oI 3, oI 4, oI x3, oI 3, oU, oU, oU] [(.int 1), (.int 4)] _
    refine XS.isub X0.here hx rfl (hb hby d7_5) rfl ?_
    show own_S p e below s₁ m 6 #[oR la, oI 3, oI 4, oI x3, oI 3, oU, oU, oU] [(.int ((4 : Int32) - (1 : Int32)))] _
    refine reI (by decide : ((4 : Int32) - (1 : Int32)) = (3 : Int32)) ?_
    show own_S p e below s₁ m 6 #[oR la, oI 3, oI 4, oI x3, oI 3, oU, oU, oU] [(.int 3)] _
    refine XS.istore X0.here hx rfl (hb hby d7_6) rfl (l' := #[.val (.ref la), .val (.int 3), .val (.int 4), .val (.int x3), .val (.int 3), .val (.int 3), .unset, .unset]) rfl ?_
    show own_S p e below s₁ m 8 #[oR la, oI 3, oI 4, oI x3, oI 3, oI 3, oU, oU] [] _
    refine XS.iload X0.here hx rfl (hb hby d7_8) rfl ?_
    show own_S p e below s₁ m 10 #[oR la, oI 3, oI 4, oI x3, oI 3, oI 3, oU, oU] [(.int 3)] _
    refine XS.iload X0.here hx rfl (hb hby d7_10) rfl ?_
    show own_S p e below s₁ m 12 #[oR la, oI 3, oI 4, oI x3, oI 3, oI 3, oU, oU] [(.int 3), (.int 3)] _
    refine XS.icmpNo X0.here hx rfl (hb hby d7_12) rfl (flt (by decide : ¬ ((3 : Int32) < (3 : Int32)))).2.2.1 ?_
    show own_S p e below s₁ m 15 #[oR la, oI 3, oI 4, oI x3, oI 3, oI 3, oU, oU] [] _
    refine XS.iload X0.here hx rfl (hb hby d7_15) rfl ?_
    show own_S p e below s₁ m 17 #[oR la, oI 3, oI 4, oI x3, oI 3, oI 3, oU, oU] [(.int 3)] _
    refine XS.iload X0.here hx rfl (hb hby d7_17) rfl ?_
    show own_S p e below s₁ m 19 #[oR la, oI 3, oI 4, oI x3, oI 3, oI 3, oU, oU] [(.int 3), (.int 3)] _
    refine XS.iadd X0.here hx rfl (hb hby d7_19) rfl ?_
    show own_S p e below s₁ m 20 #[oR la, oI 3, oI 4, oI x3, oI 3, oI 3, oU, oU] [(.int ((3 : Int32) + (3 : Int32)))] _
    refine reI (by decide : ((3 : Int32) + (3 : Int32)) = (6 : Int32)) ?_
    show own_S p e below s₁ m 20 #[oR la, oI 3, oI 4, oI x3, oI 3, oI 3, oU, oU] [(.int 6)] _
    refine XS.iconst X0.here hx rfl (hb hby d7_20) ?_
    show own_S p e below s₁ m 21 #[oR la, oI 3, oI 4, oI x3, oI 3, oI 3, oU, oU] [(.int 1), (.int 6)] _
    refine XS.iushr X0.here hx rfl (hb hby d7_21) rfl ?_
    show own_S p e below s₁ m 22 #[oR la, oI 3, oI 4, oI x3, oI 3, oI 3, oU, oU] [(.int (((6 : Int32).toUInt32 >>> ((1 : Int32) &&& 31).toUInt32).toInt32))] _
    refine reI (by decide : (((6 : Int32).toUInt32 >>> ((1 : Int32) &&& 31).toUInt32).toInt32) = (3 : Int32)) ?_
    show own_S p e below s₁ m 22 #[oR la, oI 3, oI 4, oI x3, oI 3, oI 3, oU, oU] [(.int 3)] _
    refine XS.istore X0.here hx rfl (hb hby d7_22) rfl (l' := #[.val (.ref la), .val (.int 3), .val (.int 4), .val (.int x3), .val (.int 3), .val (.int 3), .val (.int 3), .unset]) rfl ?_
    show own_S p e below s₁ m 24 #[oR la, oI 3, oI 4, oI x3, oI 3, oI 3, oI 3, oU] [] _
    refine XS.aloadN X0.here hx rfl (hb hby d7_24) rfl rfl ?_
    show own_S p e below s₁ m 25 #[oR la, oI 3, oI 4, oI x3, oI 3, oI 3, oI 3, oU] [(.ref la)] _
    refine XS.iload X0.here hx rfl (hb hby d7_25) rfl ?_
    show own_S p e below s₁ m 27 #[oR la, oI 3, oI 4, oI x3, oI 3, oI 3, oI 3, oU] [(.int 3), (.ref la)] _
    refine X0.iaload hx (j := (3 : Int32)) (v := (.int x3)) (by rw [e0]; exact Ar101.1) (State.isArrayOf_alike hZ.alike Ar101.2.1) Ar101.2.2 hin101 hat101 (g := (mkF m 27 #[.val (.ref la), .val (.int 3), .val (.int 4), .val (.int x3), .val (.int 3), .val (.int 3), .val (.int 3), .unset] [(.int 3), (.ref la)])) rfl rfl (hb hby d7_27) _ ?_
    show own_S p e below s₁ m 28 #[oR la, oI 3, oI 4, oI x3, oI 3, oI 3, oI 3, oU] [(.int x3)] _
    refine XS.istore X0.here hx rfl (hb hby d7_28) rfl (l' := #[.val (.ref la), .val (.int 3), .val (.int 4), .val (.int x3), .val (.int 3), .val (.int 3), .val (.int 3), .val (.int x3)]) rfl ?_
    show own_S p e below s₁ m 30 #[oR la, oI 3, oI 4, oI x3, oI 3, oI 3, oI 3, oI x3] [] _
    refine XS.iload X0.here hx rfl (hb hby d7_30) rfl ?_
    show own_S p e below s₁ m 32 #[oR la, oI 3, oI 4, oI x3, oI 3, oI 3, oI 3, oI x3] [(.int x3)] _
    refine XS.iloadN X0.here hx rfl (hb hby d7_32) rfl ?_
    show own_S p e below s₁ m 33 #[oR la, oI 3, oI 4, oI x3, oI 3, oI 3, oI 3, oI x3] [(.int x3), (.int x3)] _
    refine XS.icmpYes X0.here hx rfl (pc0 := 33) (pc' := 45) rfl (hb hby d7_33) rfl (flt (own_irr : ¬ (x3 < x3))).2.1 (by decide) (by decide) ?_
    show own_S p e below s₁ m 45 #[oR la, oI 3, oI 4, oI x3, oI 3, oI 3, oI 3, oI x3] [] _
    refine XS.iload X0.here hx rfl (hb hby d7_45) rfl ?_
    show own_S p e below s₁ m 47 #[oR la, oI 3, oI 4, oI x3, oI 3, oI 3, oI 3, oI x3] [(.int x3)] _
    refine XS.iloadN X0.here hx rfl (hb hby d7_47) rfl ?_
    show own_S p e below s₁ m 48 #[oR la, oI 3, oI 4, oI x3, oI 3, oI 3, oI 3, oI x3] [(.int x3), (.int x3)] _
    refine XS.icmpYes X0.here hx rfl (pc0 := 48) (pc' := 60) rfl (hb hby d7_48) rfl (flt (own_irr : ¬ (x3 < x3))).2.2.2 (by decide) (by decide) ?_
    show own_S p e below s₁ m 60 #[oR la, oI 3, oI 4, oI x3, oI 3, oI 3, oI 3, oI x3] [] _
    refine XS.iload X0.here hx rfl (hb hby d7_60) rfl ?_
    show own_S p e below s₁ m 62 #[oR la, oI 3, oI 4, oI x3, oI 3, oI 3, oI 3, oI x3] [(.int 3)] _
    exact retOut X0 hx Bd.returns rfl (Or.inl ⟨rfl, Or.inl rfl, _, rfl⟩) (hb hby d7_62) hr
  · show Q7_3_4_0 Z la x3 kk x0 x1 x2 h0 n0 _ s₁.heap _
    rw [e0]
    exact ⟨rfl, N0, rfl⟩
def Q7A (Z : State) (la : Addr) (p1 : Int32) (p2 : Int32) (p3 : Int32) (kk : ClassId) (x0 : Int32) (x1 : Int32) (x2 : Int32) (x3 : Int32) (ix : Int32) (pi : Int32) (h0 : Heap) (n0 : Nat) (v : Option Value) (h : Heap) (L : List Loc) : Prop := v = some (.int ix) ∧ Fr n0 L ∧ (h = h0)
set_option maxRecDepth 65536 in
set_option maxHeartbeats 40000000 in
theorem rm7A (l : Launch) (Z : State) (a0 : Array Value) (hw : ∀ d ∈ tables_1, d.before a0 Z = true) (ws : List Jvm.Cond) (la : Addr) (p1 : Int32) (p2 : Int32) (p3 : Int32) (kk : ClassId) (x0 : Int32) (x1 : Int32) (x2 : Int32) (x3 : Int32) (ix : Int32) (pi : Int32) (h0 : Heap) (n0 : Nat) (Z0 : n0 ≤ h0.size) (V_la : Arv Z h0 la kk .int (4 : Int32) [(.int x0), (.int x1), (.int x2), (.int x3)] (.int 0)) (o01 : x0 < x1) (o02 : x0 < x2) (o03 : x0 < x3) (o12 : x1 < x2) (o13 : x1 < x3) (o23 : x2 < x3) (hc : own_HC p1 p2 p3 ix pi x0 x1 x2 x3) :
    MetFree l (⟨"java/util/Arrays", "binarySearch0", "([IIII)I"⟩ : MethodName) (head1 (Jvm.Cond.code (⟨"java/util/Arrays", "binarySearch0", "([IIII)I"⟩ : MethodName) jdk_65_method_59_code 8 (some .int) :: ws) ({ frames := 0, cells := 0, slots := 0, locals := 0 } : Room)) (fun a U => a = #[(.ref la), (.int p1), (.int p2), (.int p3)] ∧ Z.Warmed39 U.vm ∧ U.heap = h0) (fun _ _ _ _ _ => True) (fun _ U o U' => ∃ v L, o = .returned v ∧ Q7A Z la p1 p2 p3 kk x0 x1 x2 x3 ix pi h0 n0 v U'.heap L ∧ FrameEnd U o U' L ({ frames := 0, cells := 0, slots := 0, locals := 0 } : Room).cells ({ frames := 0, cells := 0, slots := 0, locals := 0 } : Room).slots) := by
  unfold own_HC at hc
  rcases hc with ⟨rfl, rfl, rfl, rfl, rfl⟩ | ⟨rfl, rfl, rfl, rfl, rfl⟩ | ⟨rfl, rfl, rfl, rfl, rfl⟩ | ⟨rfl, rfl, rfl, rfl, rfl⟩ | ⟨rfl, rfl, rfl, rfl, rfl⟩ | ⟨rfl, rfl, rfl, rfl, rfl⟩ | ⟨rfl, rfl, rfl, rfl, rfl⟩ | ⟨rfl, rfl, rfl, rfl, rfl⟩ | ⟨rfl, rfl, rfl, rfl, rfl⟩ | ⟨rfl, rfl, rfl, rfl, rfl⟩ | ⟨rfl, rfl, rfl, rfl, rfl⟩ | ⟨rfl, rfl, rfl, rfl, rfl⟩ | ⟨rfl, rfl, rfl, rfl, rfl⟩ | ⟨rfl, rfl, rfl, rfl, rfl⟩ | ⟨rfl, rfl, rfl, rfl, rfl⟩ | ⟨rfl, rfl, rfl, rfl, rfl⟩ | ⟨rfl, rfl, rfl, rfl, rfl⟩ | ⟨rfl, rfl, rfl, rfl, rfl⟩ | ⟨rfl, rfl, rfl, rfl, rfl⟩ | ⟨rfl, rfl, rfl, rfl, rfl⟩
  · exact rm7_0_1_0 l Z a0 hw ws la p3 kk x1 x2 x3 h0 n0 Z0 V_la o01 o02 o03 o12 o13 o23
  · exact rm7_0_2_0 l Z a0 hw ws la p3 kk x1 x2 x3 h0 n0 Z0 V_la o01 o02 o03 o12 o13 o23
  · exact rm7_0_2_1 l Z a0 hw ws la p3 kk x0 x2 x3 h0 n0 Z0 V_la o01 o02 o03 o12 o13 o23
  · exact rm7_0_3_0 l Z a0 hw ws la p3 kk x1 x2 x3 h0 n0 Z0 V_la o01 o02 o03 o12 o13 o23
  · exact rm7_0_3_1 l Z a0 hw ws la p3 kk x0 x2 x3 h0 n0 Z0 V_la o01 o02 o03 o12 o13 o23
  · exact rm7_0_3_2 l Z a0 hw ws la p3 kk x0 x1 x3 h0 n0 Z0 V_la o01 o02 o03 o12 o13 o23
  · exact rm7_0_4_0 l Z a0 hw ws la p3 kk x1 x2 x3 h0 n0 Z0 V_la o01 o02 o03 o12 o13 o23
  · exact rm7_0_4_1 l Z a0 hw ws la p3 kk x0 x2 x3 h0 n0 Z0 V_la o01 o02 o03 o12 o13 o23
  · exact rm7_0_4_2 l Z a0 hw ws la p3 kk x0 x1 x3 h0 n0 Z0 V_la o01 o02 o03 o12 o13 o23
  · exact rm7_0_4_3 l Z a0 hw ws la p3 kk x0 x1 x2 h0 n0 Z0 V_la o01 o02 o03 o12 o13 o23
  · exact rm7_1_2_0 l Z a0 hw ws la p3 kk x0 x2 x3 h0 n0 Z0 V_la o01 o02 o03 o12 o13 o23
  · exact rm7_1_3_0 l Z a0 hw ws la p3 kk x0 x2 x3 h0 n0 Z0 V_la o01 o02 o03 o12 o13 o23
  · exact rm7_1_3_1 l Z a0 hw ws la p3 kk x0 x1 x3 h0 n0 Z0 V_la o01 o02 o03 o12 o13 o23
  · exact rm7_1_4_0 l Z a0 hw ws la p3 kk x0 x2 x3 h0 n0 Z0 V_la o01 o02 o03 o12 o13 o23
  · exact rm7_1_4_1 l Z a0 hw ws la p3 kk x0 x1 x3 h0 n0 Z0 V_la o01 o02 o03 o12 o13 o23
  · exact rm7_1_4_2 l Z a0 hw ws la p3 kk x0 x1 x2 h0 n0 Z0 V_la o01 o02 o03 o12 o13 o23
  · exact rm7_2_3_0 l Z a0 hw ws la p3 kk x0 x1 x3 h0 n0 Z0 V_la o01 o02 o03 o12 o13 o23
  · exact rm7_2_4_0 l Z a0 hw ws la p3 kk x0 x1 x3 h0 n0 Z0 V_la o01 o02 o03 o12 o13 o23
  · exact rm7_2_4_1 l Z a0 hw ws la p3 kk x0 x1 x2 h0 n0 Z0 V_la o01 o02 o03 o12 o13 o23
  · exact rm7_3_4_0 l Z a0 hw ws la p3 kk x0 x1 x2 h0 n0 Z0 V_la o01 o02 o03 o12 o13 o23
theorem d6_0 : decode jdk_65_method_30_code 0 = .ok (.iload_n 1, 1) := by decide +kernel
theorem d6_1 : decode jdk_65_method_30_code 1 = .ok (.iload_n 2, 1) := by decide +kernel
theorem d6_2 : decode jdk_65_method_30_code 2 = .ok (.if_icmp .le 44, 3) := by decide +kernel
theorem d6_46 : decode jdk_65_method_30_code 46 = .ok (.iload_n 1, 1) := by decide +kernel
theorem d6_47 : decode jdk_65_method_30_code 47 = .ok (.ifCond .ge 12, 3) := by decide +kernel
theorem d6_59 : decode jdk_65_method_30_code 59 = .ok (.iload_n 2, 1) := by decide +kernel
theorem d6_60 : decode jdk_65_method_30_code 60 = .ok (.iload_n 0, 1) := by decide +kernel
theorem d6_61 : decode jdk_65_method_30_code 61 = .ok (.if_icmp .le 12, 3) := by decide +kernel
theorem d6_73 : decode jdk_65_method_30_code 73 = .ok (.return_, 1) := by decide +kernel
theorem efm6 (m : MethodId) (p0 : Int32) (p1 : Int32) (p2 : Int32) : entryFrame m #[(.int p0), (.int p1), (.int p2)] 3 = mkF m 0 #[.val (.int p0), .val (.int p1), .val (.int p2)] [] := by first | (simp [entryFrame, mkF, argsToLocals, Value.category]; done) | rfl
def Qm6 (Z : State) (p0 : Int32) (p1 : Int32) (p2 : Int32) (h0 : Heap) (n0 : Nat) (v : Option Value) (h : Heap) (L : List Loc) : Prop := v = none ∧ Fr n0 L ∧ (h = h0)
set_option maxRecDepth 65536 in
set_option maxHeartbeats 40000000 in
theorem rmm6 (l : Launch) (Z : State) (a0 : Array Value) (hw : ∀ d ∈ tables_1, d.before a0 Z = true) (ws : List Jvm.Cond) (p0 : Int32) (p1 : Int32) (p2 : Int32) (h0 : Heap) (n0 : Nat) (Z0 : n0 ≤ h0.size) (ha : ¬ (p2 < p1)) (hb_ : ¬ (p1 < (0 : Int32))) (hc : ¬ (p0 < p2)) :
    MetFree l (⟨"java/util/Arrays", "rangeCheck", "(III)V"⟩ : MethodName) (head1 (Jvm.Cond.code (⟨"java/util/Arrays", "rangeCheck", "(III)V"⟩ : MethodName) jdk_65_method_30_code 3 none :: ws) ({ frames := 0, cells := 0, slots := 0, locals := 0 } : Room)) (fun a U => a = #[(.int p0), (.int p1), (.int p2)] ∧ Z.Warmed39 U.vm ∧ U.heap = h0) (fun _ _ _ _ _ => True) (fun _ U o U' => ∃ v L, o = .returned v ∧ Qm6 Z p0 p1 p2 h0 n0 v U'.heap L ∧ FrameEnd U o U' L ({ frames := 0, cells := 0, slots := 0, locals := 0 } : Room).cells ({ frames := 0, cells := 0, slots := 0, locals := 0 } : Room).slots) := by
  refine MetFree.of_bodySF (plainFor_of_name pn1) hisR ?_
  intro p e s m args below meth c s₁ Bd hml0 hP hK
  obtain ⟨rfl, hZ, hh⟩ := hP
  have hx := Bd.exec
  have hby := Bd.bytes
  have hml : c.maxLocals = 3 := hml0
  have hown : s.vm.findClass "java/util/Arrays" = some m.cls := findClass_of_methodNamed Bd.named
  have hnm := (name_of_methodNamed Bd.named Bd.method).1
  have X0 : Stand p l e ({ frames := 0, cells := 0, slots := 0, locals := 0 } : Room) s m #[(.int p0), (.int p1), (.int p2)] below meth c s₁ [] 0 0 := Stand.of_body Bd
  have e0 : s₁.heap = h0 := by rw [← hh, Bd.state]; rfl
  have N0 := Fr.nil n0
  have pre0 : ∀ t, Steps p.tables e below (s₁.setTop (mkF m 0 #[.val (.int p0), .val (.int p1), .val (.int p2)] [])) t → Steps p.tables e below (s₁.setTop (entryFrame m #[(.int p0), (.int p1), (.int p2)] 3)) t := fun t k => castTop (efm6 m p0 p1 p2) k
  obtain ⟨fs, hr, hrun, hended, hW, hsame⟩ := X0.leave (v := none) (fun _ => rfl)
  refine ⟨_, _, pre0 _ ?_, hrun, hended, _, _, rfl, ?_, ⟨_, rfl⟩, hW, hsame.mono (by decide) (by decide)⟩
  · show own_S p e below s₁ m 0 #[oI p0, oI p1, oI p2] [] _
    refine XS.iloadN X0.here hx rfl (hb hby d6_0) rfl ?_
    show own_S p e below s₁ m 1 #[oI p0, oI p1, oI p2] [(.int p1)] _
    refine XS.iloadN X0.here hx rfl (hb hby d6_1) rfl ?_
    show own_S p e below s₁ m 2 #[oI p0, oI p1, oI p2] [(.int p2), (.int p1)] _
    refine XS.icmpYes X0.here hx rfl (pc0 := 2) (pc' := 46) rfl (hb hby d6_2) rfl (flt (ha : ¬ (p2 < p1))).2.2.2 (by decide) (by decide) ?_
    show own_S p e below s₁ m 46 #[oI p0, oI p1, oI p2] [] _
    refine XS.iloadN X0.here hx rfl (hb hby d6_46) rfl ?_
    show own_S p e below s₁ m 47 #[oI p0, oI p1, oI p2] [(.int p1)] _
    refine XS.ifYes X0.here hx rfl (pc0 := 47) (pc' := 59) rfl (hb hby d6_47) rfl ((if0 _ _).trans (flt (hb_ : ¬ (p1 < (0 : Int32)))).2.1) (by decide) (by decide) ?_
    show own_S p e below s₁ m 59 #[oI p0, oI p1, oI p2] [] _
    refine XS.iloadN X0.here hx rfl (hb hby d6_59) rfl ?_
    show own_S p e below s₁ m 60 #[oI p0, oI p1, oI p2] [(.int p2)] _
    refine XS.iloadN X0.here hx rfl (hb hby d6_60) rfl ?_
    show own_S p e below s₁ m 61 #[oI p0, oI p1, oI p2] [(.int p0), (.int p2)] _
    refine XS.icmpYes X0.here hx rfl (pc0 := 61) (pc' := 73) rfl (hb hby d6_61) rfl (flt (hc : ¬ (p0 < p2))).2.2.2 (by decide) (by decide) ?_
    show own_S p e below s₁ m 73 #[oI p0, oI p1, oI p2] [] _
    exact X0.returnOut hx Bd.returns (hb hby d6_73) hr
  · show Qm6 Z p0 p1 p2 h0 n0 _ s₁.heap _
    rw [e0]
    exact ⟨rfl, N0, rfl⟩
theorem pd0 : parseMethodDescriptor "(III)V" = some ⟨[.int, .int, .int], none⟩ := by decide +kernel
theorem pd1 : parseMethodDescriptor "([IIII)I" = some ⟨[(.array .int), .int, .int, .int], some .int⟩ := by decide +kernel
theorem d5_0 : decode jdk_65_method_58_code 0 = .ok (.aload_n 0, 1) := by decide +kernel
theorem d5_1 : decode jdk_65_method_58_code 1 = .ok (.arraylength, 1) := by decide +kernel
theorem d5_2 : decode jdk_65_method_58_code 2 = .ok (.iload_n 1, 1) := by decide +kernel
theorem d5_3 : decode jdk_65_method_58_code 3 = .ok (.iload_n 2, 1) := by decide +kernel
theorem d5_4 : decode jdk_65_method_58_code 4 = .ok (.invokestatic 13, 3) := by decide +kernel
theorem d5_7 : decode jdk_65_method_58_code 7 = .ok (.aload_n 0, 1) := by decide +kernel
theorem d5_8 : decode jdk_65_method_58_code 8 = .ok (.iload_n 1, 1) := by decide +kernel
theorem d5_9 : decode jdk_65_method_58_code 9 = .ok (.iload_n 2, 1) := by decide +kernel
theorem d5_10 : decode jdk_65_method_58_code 10 = .ok (.iload_n 3, 1) := by decide +kernel
theorem d5_11 : decode jdk_65_method_58_code 11 = .ok (.invokestatic 209, 3) := by decide +kernel
theorem d5_14 : decode jdk_65_method_58_code 14 = .ok (.ireturn, 1) := by decide +kernel
theorem efm5 (m : MethodId) (la : Addr) (p1 : Int32) (p2 : Int32) (p3 : Int32) : entryFrame m #[(.ref la), (.int p1), (.int p2), (.int p3)] 4 = mkF m 0 #[.val (.ref la), .val (.int p1), .val (.int p2), .val (.int p3)] [] := by first | (simp [entryFrame, mkF, argsToLocals, Value.category]; done) | rfl
def Qm5 (Z : State) (la : Addr) (p1 : Int32) (p2 : Int32) (p3 : Int32) (kk : ClassId) (x0 : Int32) (x1 : Int32) (x2 : Int32) (x3 : Int32) (ix : Int32) (pi : Int32) (h0 : Heap) (n0 : Nat) (v : Option Value) (h : Heap) (L : List Loc) : Prop := v = some (.int ix) ∧ Fr n0 L ∧ (h = h0)
set_option maxRecDepth 65536 in
set_option maxHeartbeats 40000000 in
theorem rmm5 (l : Launch) (Z : State) (a0 : Array Value) (hw : ∀ d ∈ tables_1, d.before a0 Z = true) (ws : List Jvm.Cond) (la : Addr) (p1 : Int32) (p2 : Int32) (p3 : Int32) (kk : ClassId) (x0 : Int32) (x1 : Int32) (x2 : Int32) (x3 : Int32) (ix : Int32) (pi : Int32) (h0 : Heap) (n0 : Nat) (Z0 : n0 ≤ h0.size) (V_la : Arv Z h0 la kk .int (4 : Int32) [(.int x0), (.int x1), (.int x2), (.int x3)] (.int 0)) (o01 : x0 < x1) (o02 : x0 < x2) (o03 : x0 < x3) (o12 : x1 < x2) (o13 : x1 < x3) (o23 : x2 < x3) (hc : own_HC p1 p2 p3 ix pi x0 x1 x2 x3) :
    MetFree l (⟨"java/util/Arrays", "binarySearch", "([IIII)I"⟩ : MethodName) (head1 (Jvm.Cond.code (⟨"java/util/Arrays", "binarySearch", "([IIII)I"⟩ : MethodName) jdk_65_method_58_code 4 (some .int) :: ws) ({ frames := 1, cells := 0, slots := 0, locals := 19 } : Room)) (fun a U => a = #[(.ref la), (.int p1), (.int p2), (.int p3)] ∧ Z.Warmed39 U.vm ∧ U.heap = h0) (fun _ _ _ _ _ => True) (fun _ U o U' => ∃ v L, o = .returned v ∧ Qm5 Z la p1 p2 p3 kk x0 x1 x2 x3 ix pi h0 n0 v U'.heap L ∧ FrameEnd U o U' L ({ frames := 1, cells := 0, slots := 0, locals := 19 } : Room).cells ({ frames := 1, cells := 0, slots := 0, locals := 19 } : Room).slots) := by
  refine MetFree.of_bodySF (plainFor_of_name pn1) hisR ?_
  intro p e s m args below meth c s₁ Bd hml0 hP hK
  obtain ⟨rfl, hZ, hh⟩ := hP
  have hx := Bd.exec
  have hby := Bd.bytes
  have hml : c.maxLocals = 4 := hml0
  have hown : s.vm.findClass "java/util/Arrays" = some m.cls := findClass_of_methodNamed Bd.named
  have hnm := (name_of_methodNamed Bd.named Bd.method).1
  have X0 : Stand p l e ({ frames := 1, cells := 0, slots := 0, locals := 19 } : Room) s m #[(.ref la), (.int p1), (.int p2), (.int p3)] below meth c s₁ [] 0 0 := Stand.of_body Bd
  have e0 : s₁.heap = h0 := by rw [← hh, Bd.state]; rfl
  have N0 := Fr.nil n0
  have pre0 : ∀ t, Steps p.tables e below (s₁.setTop (mkF m 0 #[.val (.ref la), .val (.int p1), .val (.int p2), .val (.int p3)] [])) t → Steps p.tables e below (s₁.setTop (entryFrame m #[(.ref la), (.int p1), (.int p2), (.int p3)] 4)) t := fun t k => castTop (efm5 m la p1 p2 p3) k
  obtain ⟨cl101, Ar101, qk101, Sz101, Nz101, Hh101, Gg101⟩ := id V_la
  obtain ⟨_, _, ⟨T102, L102, k102, n102⟩, -, X102, ⟨Lc102, hQ102, l102, y102, z102⟩, st102⟩ := Jvm.LawKit.callS X0 hx (y := (⟨"java/util/Arrays", "rangeCheck", "(III)V"⟩ : MethodName)) hown (mvT hZ (own_w hw 43 rfl)) (mvT hZ (own_w hw 44 rfl)) (mvT hZ (own_w hw 41 rfl)) (mvT hZ (own_w hw 45 rfl)) (by decide) (backOf (W := 0) (rmm6 l Z a0 hw [] (4 : Int32) p1 p2 h0 n0 Z0 (own_HCf hc).1 (own_HCf hc).2.1 (own_HCf hc).2.2.1) hZ (own_w hw 45 rfl) (own_w hw 41 rfl) (by decide) (by decide)) (g := (mkF m 4 #[.val (.ref la), .val (.int p1), .val (.int p2), .val (.int p3)] [(.int p2), (.int p1), (.int 4)])) rfl (by rw [hml]; rfl) (argsL := [(.int 4), (.int p1), (.int p2)]) (rest := []) (lenOf pd0 rfl) rfl (by show 2 * 0 + _ ≤ _; exact Nat.le_of_eq rfl) (hb hby d5_4) (fun _ _ => ⟨rfl, e0, (by decide : 0 + 0 ≤ _), (by decide : 0 + 0 ≤ _)⟩)
  dsimp only [Pt.U, Pt.locs, Pt.cells, Pt.slots] at X102 l102 y102 z102 st102 hQ102
  subst l102 y102 z102
  obtain ⟨rfl, Nq102, P102_0⟩ := hQ102
  have N102 := Fr.app N0 Nq102
  obtain ⟨_, _, ⟨T103, L103, k103, n103⟩, -, X103, ⟨Lc103, hQ103, l103, y103, z103⟩, st103⟩ := Jvm.LawKit.callS X102 hx (y := (⟨"java/util/Arrays", "binarySearch0", "([IIII)I"⟩ : MethodName)) hown (mvT hZ (own_w hw 46 rfl)) (mvT hZ (own_w hw 47 rfl)) (mvT hZ (own_w hw 41 rfl)) (mvT hZ (own_w hw 48 rfl)) (by decide) (backOf (W := 0) (rm7A l Z a0 hw [] la p1 p2 p3 kk x0 x1 x2 x3 ix pi h0 n0 Z0 V_la o01 o02 o03 o12 o13 o23 hc) hZ (own_w hw 48 rfl) (own_w hw 41 rfl) (by decide) (by decide)) (g := (mkF m 11 #[.val (.ref la), .val (.int p1), .val (.int p2), .val (.int p3)] [(.int p3), (.int p2), (.int p1), (.ref la)])) rfl (by rw [hml]; rfl) (argsL := [(.ref la), (.int p1), (.int p2), (.int p3)]) (rest := []) (lenOf pd1 rfl) rfl (by show 2 * 0 + _ ≤ _; exact Nat.le_of_eq rfl) (hb hby d5_11) (fun _ _ => ⟨rfl, P102_0, (by decide : 0 + 0 ≤ _), (by decide : 0 + 0 ≤ _)⟩)
  dsimp only [Pt.U, Pt.locs, Pt.cells, Pt.slots] at X103 l103 y103 z103 st103 hQ103
  subst l103 y103 z103
  obtain ⟨rfl, Nq103, P103_0⟩ := hQ103
  have N103 := Fr.app N102 Nq103
  obtain ⟨fs, hr, hrun, hended, hW, hsame⟩ := X103.leave (v := some (.int ix)) (fun h => by rw [Bd.returns] at h; cases h)
  refine ⟨_, _, pre0 _ ?_, hrun, hended, _, _, rfl, ?_, ⟨_, rfl⟩, hW, hsame.mono (by decide) (by decide)⟩
  · show own_S p e below s₁ m 0 #[oR la, oI p1, oI p2, oI p3] [] _
    refine XS.aloadN X0.here hx rfl (hb hby d5_0) rfl rfl ?_
    show own_S p e below s₁ m 1 #[oR la, oI p1, oI p2, oI p3] [(.ref la)] _
    refine X0.arraylength hx (by rw [e0]; exact Ar101.1) (State.isArrayOf_alike hZ.alike Ar101.2.1) (g := (mkF m 1 #[.val (.ref la), .val (.int p1), .val (.int p2), .val (.int p3)] [(.ref la)])) rfl rfl (hb hby d5_1) _ ?_
    rw [len_of Sz101 Nz101]
    show own_S p e below s₁ m 2 #[oR la, oI p1, oI p2, oI p3] [(.int 4)] _
    refine XS.iloadN X0.here hx rfl (hb hby d5_2) rfl ?_
    show own_S p e below s₁ m 3 #[oR la, oI p1, oI p2, oI p3] [(.int p1), (.int 4)] _
    refine XS.iloadN X0.here hx rfl (hb hby d5_3) rfl ?_
    show own_S p e below s₁ m 4 #[oR la, oI p1, oI p2, oI p3] [(.int p2), (.int p1), (.int 4)] _
    refine st102 _ ?_
    show own_S p e below T102 m 7 #[oR la, oI p1, oI p2, oI p3] [] _
    refine XS.aloadN X102.here hx rfl (hb hby d5_7) rfl rfl ?_
    show own_S p e below T102 m 8 #[oR la, oI p1, oI p2, oI p3] [(.ref la)] _
    refine XS.iloadN X102.here hx rfl (hb hby d5_8) rfl ?_
    show own_S p e below T102 m 9 #[oR la, oI p1, oI p2, oI p3] [(.int p1), (.ref la)] _
    refine XS.iloadN X102.here hx rfl (hb hby d5_9) rfl ?_
    show own_S p e below T102 m 10 #[oR la, oI p1, oI p2, oI p3] [(.int p2), (.int p1), (.ref la)] _
    refine XS.iloadN X102.here hx rfl (hb hby d5_10) rfl ?_
    show own_S p e below T102 m 11 #[oR la, oI p1, oI p2, oI p3] [(.int p3), (.int p2), (.int p1), (.ref la)] _
    refine st103 _ ?_
    show own_S p e below T103 m 14 #[oR la, oI p1, oI p2, oI p3] [(.int ix)] _
    exact retOut X103 hx Bd.returns rfl (Or.inl ⟨rfl, Or.inl rfl, _, rfl⟩) (hb hby d5_14) hr
  · show Qm5 Z la p1 p2 p3 kk x0 x1 x2 x3 ix pi h0 n0 _ T103.heap _
    rw [P103_0]
    exact ⟨rfl, N103, rfl⟩
theorem d4_0 : decode prog_27_method_6_code 0 = .ok (.aload_n 0, 1) := by decide +kernel
theorem d4_1 : decode prog_27_method_6_code 1 = .ok (.getfield 7, 3) := by decide +kernel
theorem d4_4 : decode prog_27_method_6_code 4 = .ok (.aload_n 0, 1) := by decide +kernel
theorem d4_5 : decode prog_27_method_6_code 5 = .ok (.getfield 20, 3) := by decide +kernel
theorem d4_8 : decode prog_27_method_6_code 8 = .ok (.aload_n 0, 1) := by decide +kernel
theorem d4_9 : decode prog_27_method_6_code 9 = .ok (.getfield 24, 3) := by decide +kernel
theorem d4_12 : decode prog_27_method_6_code 12 = .ok (.iload_n 1, 1) := by decide +kernel
theorem d4_13 : decode prog_27_method_6_code 13 = .ok (.invokestatic 34, 3) := by decide +kernel
theorem d4_16 : decode prog_27_method_6_code 16 = .ok (.istore_n 2, 1) := by decide +kernel
theorem d4_17 : decode prog_27_method_6_code 17 = .ok (.iload_n 2, 1) := by decide +kernel
theorem d4_18 : decode prog_27_method_6_code 18 = .ok (.ifCond .ge 7, 3) := by decide +kernel
theorem d4_25 : decode prog_27_method_6_code 25 = .ok (.iload_n 2, 1) := by decide +kernel
theorem d4_26 : decode prog_27_method_6_code 26 = .ok (.aload_n 0, 1) := by decide +kernel
theorem d4_27 : decode prog_27_method_6_code 27 = .ok (.getfield 20, 3) := by decide +kernel
theorem d4_30 : decode prog_27_method_6_code 30 = .ok (.isub, 1) := by decide +kernel
theorem d4_31 : decode prog_27_method_6_code 31 = .ok (.ireturn, 1) := by decide +kernel
theorem efm4 (m : MethodId) (r0 : Addr) (p1 : Int32) : entryFrame m #[(.ref r0), (.int p1)] 3 = mkF m 0 #[.val (.ref r0), .val (.int p1), .unset] [] := by first | (simp [entryFrame, mkF, argsToLocals, Value.category]; done) | rfl
def Qm4 (Z : State) (r0 : Addr) (p1 : Int32) (la : Addr) (fr : Int32) (to : Int32) (kk : ClassId) (x0 : Int32) (x1 : Int32) (x2 : Int32) (x3 : Int32) (ix : Int32) (pi : Int32) (h0 : Heap) (n0 : Nat) (v : Option Value) (h : Heap) (L : List Loc) : Prop := v = some (.int pi) ∧ Fr n0 L ∧ (h = h0)
set_option maxRecDepth 65536 in
set_option maxHeartbeats 40000000 in
theorem rmm4 (l : Launch) (Z : State) (a0 : Array Value) (hw : ∀ d ∈ tables_1, d.before a0 Z = true) (ws : List Jvm.Cond) (r0 : Addr) (p1 : Int32) (la : Addr) (fr : Int32) (to : Int32) (kk : ClassId) (x0 : Int32) (x1 : Int32) (x2 : Int32) (x3 : Int32) (ix : Int32) (pi : Int32) (h0 : Heap) (n0 : Nat) (Z0 : n0 ≤ h0.size) (F_docs_r0 : Fld Z h0 r0 "com/example/buurt/buurt/model/CrossTermFrequencies" "docs" "[I" (.ref la)) (F_from_r0 : Fld Z h0 r0 "com/example/buurt/buurt/model/CrossTermFrequencies" "from" "I" (.int fr)) (F_to_r0 : Fld Z h0 r0 "com/example/buurt/buurt/model/CrossTermFrequencies" "to" "I" (.int to)) (V_la : Arv Z h0 la kk .int (4 : Int32) [(.int x0), (.int x1), (.int x2), (.int x3)] (.int 0)) (o01 : x0 < x1) (o02 : x0 < x2) (o03 : x0 < x3) (o12 : x1 < x2) (o13 : x1 < x3) (o23 : x2 < x3) (hc : own_HC fr to p1 ix pi x0 x1 x2 x3) :
    MetFree l (⟨"com/example/buurt/buurt/model/CrossTermFrequencies", "indexOf", "(I)I"⟩ : MethodName) (head1 (Jvm.Cond.code (⟨"com/example/buurt/buurt/model/CrossTermFrequencies", "indexOf", "(I)I"⟩ : MethodName) prog_27_method_6_code 3 (some .int) :: ws) ({ frames := 2, cells := 0, slots := 0, locals := 34 } : Room)) (fun a U => a = #[(.ref r0), (.int p1)] ∧ Z.Warmed39 U.vm ∧ U.heap = h0) (fun _ _ _ _ _ => True) (fun _ U o U' => ∃ v L, o = .returned v ∧ Qm4 Z r0 p1 la fr to kk x0 x1 x2 x3 ix pi h0 n0 v U'.heap L ∧ FrameEnd U o U' L ({ frames := 2, cells := 0, slots := 0, locals := 34 } : Room).cells ({ frames := 2, cells := 0, slots := 0, locals := 34 } : Room).slots) := by
  refine MetFree.of_bodySF (plainFor_of_name pn0) hisR ?_
  intro p e s m args below meth c s₁ Bd hml0 hP hK
  obtain ⟨rfl, hZ, hh⟩ := hP
  have hx := Bd.exec
  have hby := Bd.bytes
  have hml : c.maxLocals = 3 := hml0
  have hown : s.vm.findClass "com/example/buurt/buurt/model/CrossTermFrequencies" = some m.cls := findClass_of_methodNamed Bd.named
  have hnm := (name_of_methodNamed Bd.named Bd.method).1
  have X0 : Stand p l e ({ frames := 2, cells := 0, slots := 0, locals := 34 } : Room) s m #[(.ref r0), (.int p1)] below meth c s₁ [] 0 0 := Stand.of_body Bd
  have e0 : s₁.heap = h0 := by rw [← hh, Bd.state]; rfl
  have N0 := Fr.nil n0
  have pre0 : ∀ t, Steps p.tables e below (s₁.setTop (mkF m 0 #[.val (.ref r0), .val (.int p1), .unset] [])) t → Steps p.tables e below (s₁.setTop (entryFrame m #[(.ref r0), (.int p1)] 3)) t := fun t k => castTop (efm4 m r0 p1) k
  obtain ⟨T101, X101, e101, st101⟩ := getF X0 hx hZ hown (host := "") (Or.inl (own_w hw 15 rfl)) Via.refl e0 F_docs_r0 (g := (mkF m 1 #[.val (.ref r0), .val (.int p1), .unset] [(.ref r0)])) rfl rfl (hb hby d4_1)
  obtain ⟨T102, X102, e102, st102⟩ := getF X101 hx hZ hown (host := "") (Or.inl (own_w hw 21 rfl)) Via.refl e101 F_from_r0 (g := (mkF m 5 #[.val (.ref r0), .val (.int p1), .unset] [(.ref r0), (.ref la)])) rfl rfl (hb hby d4_5)
  obtain ⟨T103, X103, e103, st103⟩ := getF X102 hx hZ hown (host := "") (Or.inl (own_w hw 23 rfl)) Via.refl e102 F_to_r0 (g := (mkF m 9 #[.val (.ref r0), .val (.int p1), .unset] [(.ref r0), (.int fr), (.ref la)])) rfl rfl (hb hby d4_9)
  obtain ⟨_, _, ⟨T104, L104, k104, n104⟩, -, X104, ⟨Lc104, hQ104, l104, y104, z104⟩, st104⟩ := Jvm.LawKit.callS X103 hx (y := (⟨"java/util/Arrays", "binarySearch", "([IIII)I"⟩ : MethodName)) hown (mvT hZ (own_w hw 39 rfl)) (mvT hZ (own_w hw 40 rfl)) (mvT hZ (own_w hw 41 rfl)) (mvT hZ (own_w hw 42 rfl)) (by decide) (backOf (W := 0) (rmm5 l Z a0 hw [] la fr to p1 kk x0 x1 x2 x3 ix pi h0 n0 Z0 V_la o01 o02 o03 o12 o13 o23 hc) hZ (own_w hw 42 rfl) (own_w hw 41 rfl) (by decide) (by decide)) (g := (mkF m 13 #[.val (.ref r0), .val (.int p1), .unset] [(.int p1), (.int to), (.int fr), (.ref la)])) rfl (by rw [hml]; rfl) (argsL := [(.ref la), (.int fr), (.int to), (.int p1)]) (rest := []) (lenOf pd1 rfl) rfl (by show 2 * 0 + _ ≤ _; exact Nat.le_of_eq rfl) (hb hby d4_13) (fun _ _ => ⟨rfl, e103, (by decide : 0 + 0 ≤ _), (by decide : 0 + 0 ≤ _)⟩)
  dsimp only [Pt.U, Pt.locs, Pt.cells, Pt.slots] at X104 l104 y104 z104 st104 hQ104
  subst l104 y104 z104
  obtain ⟨rfl, Nq104, P104_0⟩ := hQ104
  have N104 := Fr.app N0 Nq104
  obtain ⟨T105, X105, e105, st105⟩ := getF X104 hx hZ hown (host := "") (Or.inl (own_w hw 21 rfl)) Via.refl P104_0 F_from_r0 (g := (mkF m 27 #[.val (.ref r0), .val (.int p1), .val (.int ix)] [(.ref r0), (.int ix)])) rfl rfl (hb hby d4_27)
  obtain ⟨fs, hr, hrun, hended, hW, hsame⟩ := X105.leave (v := some (.int pi)) (fun h => by rw [Bd.returns] at h; cases h)
  refine ⟨_, _, pre0 _ ?_, hrun, hended, _, _, rfl, ?_, ⟨_, rfl⟩, hW, hsame.mono (by decide) (by decide)⟩
  · show own_S p e below s₁ m 0 #[oR r0, oI p1, oU] [] _
    refine XS.aloadN X0.here hx rfl (hb hby d4_0) rfl rfl ?_
    show own_S p e below s₁ m 1 #[oR r0, oI p1, oU] [(.ref r0)] _
    refine st101 _ ?_
    show own_S p e below T101 m 4 #[oR r0, oI p1, oU] [(.ref la)] _
    refine XS.aloadN X101.here hx rfl (hb hby d4_4) rfl rfl ?_
    show own_S p e below T101 m 5 #[oR r0, oI p1, oU] [(.ref r0), (.ref la)] _
    refine st102 _ ?_
    show own_S p e below T102 m 8 #[oR r0, oI p1, oU] [(.int fr), (.ref la)] _
    refine XS.aloadN X102.here hx rfl (hb hby d4_8) rfl rfl ?_
    show own_S p e below T102 m 9 #[oR r0, oI p1, oU] [(.ref r0), (.int fr), (.ref la)] _
    refine st103 _ ?_
    show own_S p e below T103 m 12 #[oR r0, oI p1, oU] [(.int to), (.int fr), (.ref la)] _
    refine XS.iloadN X103.here hx rfl (hb hby d4_12) rfl ?_
    show own_S p e below T103 m 13 #[oR r0, oI p1, oU] [(.int p1), (.int to), (.int fr), (.ref la)] _
    refine st104 _ ?_
    show own_S p e below T104 m 16 #[oR r0, oI p1, oU] [(.int ix)] _
    refine XS.istoreN X104.here hx rfl (hb hby d4_16) rfl (l' := #[.val (.ref r0), .val (.int p1), .val (.int ix)]) rfl ?_
    show own_S p e below T104 m 17 #[oR r0, oI p1, oI ix] [] _
    refine XS.iloadN X104.here hx rfl (hb hby d4_17) rfl ?_
    show own_S p e below T104 m 18 #[oR r0, oI p1, oI ix] [(.int ix)] _
    refine XS.ifYes X104.here hx rfl (pc0 := 18) (pc' := 25) rfl (hb hby d4_18) rfl ((if0 _ _).trans (flt ((own_HCf hc).2.2.2.1 : ¬ (ix < (0 : Int32)))).2.1) (by decide) (by decide) ?_
    show own_S p e below T104 m 25 #[oR r0, oI p1, oI ix] [] _
    refine XS.iloadN X104.here hx rfl (hb hby d4_25) rfl ?_
    show own_S p e below T104 m 26 #[oR r0, oI p1, oI ix] [(.int ix)] _
    refine XS.aloadN X104.here hx rfl (hb hby d4_26) rfl rfl ?_
    show own_S p e below T104 m 27 #[oR r0, oI p1, oI ix] [(.ref r0), (.int ix)] _
    refine st105 _ ?_
    show own_S p e below T105 m 30 #[oR r0, oI p1, oI ix] [(.int fr), (.int ix)] _
    refine XS.isub X105.here hx rfl (hb hby d4_30) rfl ?_
    show own_S p e below T105 m 31 #[oR r0, oI p1, oI ix] [(.int (ix - fr))] _
    refine reI ((own_HCf hc).2.2.2.2.1 : (ix - fr) = pi) ?_
    show own_S p e below T105 m 31 #[oR r0, oI p1, oI ix] [(.int pi)] _
    exact retOut X105 hx Bd.returns rfl (Or.inl ⟨rfl, Or.inl rfl, _, rfl⟩) (hb hby d4_31) hr
  · show Qm4 Z r0 p1 la fr to kk x0 x1 x2 x3 ix pi h0 n0 _ T105.heap _
    rw [e105]
    exact ⟨rfl, N104, rfl⟩
theorem d3_0 : decode prog_27_method_3_code 0 = .ok (.aload_n 0, 1) := by decide +kernel
theorem d3_1 : decode prog_27_method_3_code 1 = .ok (.getfield 7, 3) := by decide +kernel
theorem d3_4 : decode prog_27_method_3_code 4 = .ok (.aload_n 0, 1) := by decide +kernel
theorem d3_5 : decode prog_27_method_3_code 5 = .ok (.getfield 20, 3) := by decide +kernel
theorem d3_8 : decode prog_27_method_3_code 8 = .ok (.iload_n 1, 1) := by decide +kernel
theorem d3_9 : decode prog_27_method_3_code 9 = .ok (.iadd, 1) := by decide +kernel
theorem d3_10 : decode prog_27_method_3_code 10 = .ok (.iaload, 1) := by decide +kernel
theorem d3_11 : decode prog_27_method_3_code 11 = .ok (.ireturn, 1) := by decide +kernel
theorem efm3 (m : MethodId) (r0 : Addr) (p1 : Int32) : entryFrame m #[(.ref r0), (.int p1)] 2 = mkF m 0 #[.val (.ref r0), .val (.int p1)] [] := by first | (simp [entryFrame, mkF, argsToLocals, Value.category]; done) | rfl
def Qm3 (Z : State) (r0 : Addr) (p1 : Int32) (la : Addr) (fr : Int32) (to : Int32) (key : Int32) (kk : ClassId) (x0 : Int32) (x1 : Int32) (x2 : Int32) (x3 : Int32) (ix : Int32) (pi : Int32) (h0 : Heap) (n0 : Nat) (v : Option Value) (h : Heap) (L : List Loc) : Prop := v = some (.int key) ∧ Fr n0 L ∧ (h = h0)
set_option maxRecDepth 65536 in
set_option maxHeartbeats 40000000 in
theorem rmm3 (l : Launch) (Z : State) (a0 : Array Value) (hw : ∀ d ∈ tables_1, d.before a0 Z = true) (ws : List Jvm.Cond) (r0 : Addr) (p1 : Int32) (la : Addr) (fr : Int32) (to : Int32) (key : Int32) (kk : ClassId) (x0 : Int32) (x1 : Int32) (x2 : Int32) (x3 : Int32) (ix : Int32) (pi : Int32) (h0 : Heap) (n0 : Nat) (Z0 : n0 ≤ h0.size) (F_docs_r0 : Fld Z h0 r0 "com/example/buurt/buurt/model/CrossTermFrequencies" "docs" "[I" (.ref la)) (F_from_r0 : Fld Z h0 r0 "com/example/buurt/buurt/model/CrossTermFrequencies" "from" "I" (.int fr)) (V_la : Arv Z h0 la kk .int (4 : Int32) [(.int x0), (.int x1), (.int x2), (.int x3)] (.int 0)) (hc : own_HC fr to key ix p1 x0 x1 x2 x3) :
    MetFree l (⟨"com/example/buurt/buurt/model/CrossTermFrequencies", "doc", "(I)I"⟩ : MethodName) (head1 (Jvm.Cond.code (⟨"com/example/buurt/buurt/model/CrossTermFrequencies", "doc", "(I)I"⟩ : MethodName) prog_27_method_3_code 2 (some .int) :: ws) ({ frames := 0, cells := 0, slots := 0, locals := 0 } : Room)) (fun a U => a = #[(.ref r0), (.int p1)] ∧ Z.Warmed39 U.vm ∧ U.heap = h0) (fun _ _ _ _ _ => True) (fun _ U o U' => ∃ v L, o = .returned v ∧ Qm3 Z r0 p1 la fr to key kk x0 x1 x2 x3 ix pi h0 n0 v U'.heap L ∧ FrameEnd U o U' L ({ frames := 0, cells := 0, slots := 0, locals := 0 } : Room).cells ({ frames := 0, cells := 0, slots := 0, locals := 0 } : Room).slots) := by
  refine MetFree.of_bodySF (plainFor_of_name pn0) hisR ?_
  intro p e s m args below meth c s₁ Bd hml0 hP hK
  obtain ⟨rfl, hZ, hh⟩ := hP
  have hx := Bd.exec
  have hby := Bd.bytes
  have hml : c.maxLocals = 2 := hml0
  have hown : s.vm.findClass "com/example/buurt/buurt/model/CrossTermFrequencies" = some m.cls := findClass_of_methodNamed Bd.named
  have hnm := (name_of_methodNamed Bd.named Bd.method).1
  have X0 : Stand p l e ({ frames := 0, cells := 0, slots := 0, locals := 0 } : Room) s m #[(.ref r0), (.int p1)] below meth c s₁ [] 0 0 := Stand.of_body Bd
  have e0 : s₁.heap = h0 := by rw [← hh, Bd.state]; rfl
  have N0 := Fr.nil n0
  have pre0 : ∀ t, Steps p.tables e below (s₁.setTop (mkF m 0 #[.val (.ref r0), .val (.int p1)] [])) t → Steps p.tables e below (s₁.setTop (entryFrame m #[(.ref r0), (.int p1)] 2)) t := fun t k => castTop (efm3 m r0 p1) k
  obtain ⟨T101, X101, e101, st101⟩ := getF X0 hx hZ hown (host := "") (Or.inl (own_w hw 15 rfl)) Via.refl e0 F_docs_r0 (g := (mkF m 1 #[.val (.ref r0), .val (.int p1)] [(.ref r0)])) rfl rfl (hb hby d3_1)
  obtain ⟨T102, X102, e102, st102⟩ := getF X101 hx hZ hown (host := "") (Or.inl (own_w hw 21 rfl)) Via.refl e101 F_from_r0 (g := (mkF m 5 #[.val (.ref r0), .val (.int p1)] [(.ref r0), (.ref la)])) rfl rfl (hb hby d3_5)
  obtain ⟨cl103, Ar103, qk103, Sz103, Nz103, Hh103, Gg103⟩ := id V_la
  have hin103 : ¬ (ix < 0 ∨ cl103.slots.size ≤ (ix).toNatClampNeg) := inb_of Sz103 (own_HCf hc).2.2.2.2.2.2
  have hat103 : cl103.slots[(ix).toNatClampNeg]? = some (.int key) := Has.at Hh103 hin103 (own_HCat hc)
  obtain ⟨fs, hr, hrun, hended, hW, hsame⟩ := X102.leave (v := some (.int key)) (fun h => by rw [Bd.returns] at h; cases h)
  refine ⟨_, _, pre0 _ ?_, hrun, hended, _, _, rfl, ?_, ⟨_, rfl⟩, hW, hsame.mono (by decide) (by decide)⟩
  · show own_S p e below s₁ m 0 #[oR r0, oI p1] [] _
    refine XS.aloadN X0.here hx rfl (hb hby d3_0) rfl rfl ?_
    show own_S p e below s₁ m 1 #[oR r0, oI p1] [(.ref r0)] _
    refine st101 _ ?_
    show own_S p e below T101 m 4 #[oR r0, oI p1] [(.ref la)] _
    refine XS.aloadN X101.here hx rfl (hb hby d3_4) rfl rfl ?_
    show own_S p e below T101 m 5 #[oR r0, oI p1] [(.ref r0), (.ref la)] _
    refine st102 _ ?_
    show own_S p e below T102 m 8 #[oR r0, oI p1] [(.int fr), (.ref la)] _
    refine XS.iloadN X102.here hx rfl (hb hby d3_8) rfl ?_
    show own_S p e below T102 m 9 #[oR r0, oI p1] [(.int p1), (.int fr), (.ref la)] _
    refine XS.iadd X102.here hx rfl (hb hby d3_9) rfl ?_
    show own_S p e below T102 m 10 #[oR r0, oI p1] [(.int (fr + p1)), (.ref la)] _
    refine reI ((own_HCf hc).2.2.2.2.2.1 : (fr + p1) = ix) ?_
    show own_S p e below T102 m 10 #[oR r0, oI p1] [(.int ix), (.ref la)] _
    refine X102.iaload hx (j := ix) (v := (.int key)) (by rw [e102]; exact Ar103.1) (State.isArrayOf_alike hZ.alike Ar103.2.1) Ar103.2.2 hin103 hat103 (g := (mkF m 10 #[.val (.ref r0), .val (.int p1)] [(.int ix), (.ref la)])) rfl rfl (hb hby d3_10) _ ?_
    show own_S p e below T102 m 11 #[oR r0, oI p1] [(.int key)] _
    exact retOut X102 hx Bd.returns rfl (Or.inl ⟨rfl, Or.inl rfl, _, rfl⟩) (hb hby d3_11) hr
  · show Qm3 Z r0 p1 la fr to key kk x0 x1 x2 x3 ix pi h0 n0 _ T102.heap _
    rw [e102]
    exact ⟨rfl, N0, rfl⟩
theorem pd2 : parseMethodDescriptor "([I[D[III)V" = some ⟨[(.array .int), (.array .double), (.array .int), .int, .int], none⟩ := by decide +kernel
theorem pd3 : parseMethodDescriptor "(I)I" = some ⟨[.int], some .int⟩ := by decide +kernel
theorem pn2 : plainName "com/example/buurt/buurt/model/CrossTermFrequenciesDocPinLaw" = true := by first | (simp [plainName, overriddenIn]; done) | decide +kernel
theorem efm0 (m : MethodId) (p0 : Int32) (p1 : Int32) (p2 : Int32) (p3 : Int32) (p4 : Int32) : entryFrame m #[(.int p0), (.int p1), (.int p2), (.int p3), (.int p4)] maxLocals = mkF m 0 #[.val (.int p0), .val (.int p1), .val (.int p2), .val (.int p3), .val (.int p4), .unset, .unset, .unset, .unset, .unset, .unset, .unset, .unset, .unset, .unset, .unset, .unset, .unset, .unset] [] := by first | (simp [entryFrame, mkF, argsToLocals, Value.category, maxLocals]; done) | rfl
def Qm0 (Z : State) (p0 : Int32) (p1 : Int32) (p2 : Int32) (p3 : Int32) (p4 : Int32) (h0 : Heap) (n0 : Nat) (v : Option Value) (h : Heap) (L : List Loc) : Prop := v = some (.int 1) ∧ Fr n0 L
set_option maxRecDepth 65536 in
set_option maxHeartbeats 40000000 in
theorem rmm0 (l : Launch) (Z : State) (a0 : Array Value) (hw : ∀ d ∈ tables_1, d.before a0 Z = true) (ws : List Jvm.Cond) (p0 : Int32) (p1 : Int32) (p2 : Int32) (p3 : Int32) (p4 : Int32) (h0 : Heap) (n0 : Nat) (Z0 : n0 ≤ h0.size)  :
    MetFree l x (head1 (Jvm.Cond.code x code maxLocals ret :: ws) room_1) (fun a U => a = #[(.int p0), (.int p1), (.int p2), (.int p3), (.int p4)] ∧ Z.Warmed39 U.vm ∧ U.heap = h0) (fun _ _ _ _ _ => True) (fun _ U o U' => ∃ v L, o = .returned v ∧ Qm0 Z p0 p1 p2 p3 p4 h0 n0 v U'.heap L ∧ FrameEnd U o U' L room_1.cells room_1.slots) := by
  refine MetFree.of_bodySF (plainFor_of_name pn2) hisR ?_
  intro p e s m args below meth c s₁ Bd hml0 hP hK
  obtain ⟨rfl, hZ, hh⟩ := hP
  have hx := Bd.exec
  have hby := Bd.bytes
  have hml : c.maxLocals = 19 := hml0
  have hown : s.vm.findClass "com/example/buurt/buurt/model/CrossTermFrequenciesDocPinLaw" = some m.cls := findClass_of_methodNamed Bd.named
  have hnm := (name_of_methodNamed Bd.named Bd.method).1
  have X0 : Stand p l e room_1 s m #[(.int p0), (.int p1), (.int p2), (.int p3), (.int p4)] below meth c s₁ [] 0 0 := Stand.of_body Bd
  have e0 : s₁.heap = h0 := by rw [← hh, Bd.state]; rfl
  have N0 := Fr.nil n0
  have pre0 : ∀ t, Steps p.tables e below (s₁.setTop (mkF m 0 #[.val (.int p0), .val (.int p1), .val (.int p2), .val (.int p3), .val (.int p4), .unset, .unset, .unset, .unset, .unset, .unset, .unset, .unset, .unset, .unset, .unset, .unset, .unset, .unset] [])) t → Steps p.tables e below (s₁.setTop (entryFrame m #[(.int p0), (.int p1), (.int p2), (.int p3), (.int p4)] maxLocals)) t := fun t k => castTop (efm0 m p0 p1 p2 p3 p4) k
  obtain ⟨dd0, hd0⟩ : ∃ z, z = p0 >>> ((2 : Int32) &&& 31) := ⟨_, rfl⟩
  obtain ⟨dd1, hd1⟩ : ∃ z, z = (dd0 + (p1 &&& (255 : Int32))) + (1 : Int32) := ⟨_, rfl⟩
  obtain ⟨dd2, hd2⟩ : ∃ z, z = (dd1 + (((p1.toUInt32 >>> ((8 : Int32) &&& 31).toUInt32).toInt32) &&& (255 : Int32))) + (1 : Int32) := ⟨_, rfl⟩
  obtain ⟨dd3, hd3⟩ : ∃ z, z = (dd2 + (((p1.toUInt32 >>> ((16 : Int32) &&& 31).toUInt32).toInt32) &&& (255 : Int32))) + (1 : Int32) := ⟨_, rfl⟩
  have c0 : dd0.toInt = p0.toInt / (2 ^ 2 : Nat) := by rw [hd0]; exact c_ishr p0 2 2 (by decide)
  have r0b := rng32 p0
  have bm0 : 0 ≤ ((p1 &&& (255 : Int32))).toInt ∧ ((p1 &&& (255 : Int32))).toInt < ((2 ^ 8 : Nat) : Int) := own_maskI (m := 255) (k := 8) (by decide) (by decide)
  have c1 : dd1.toInt = dd0.toInt + ((p1 &&& (255 : Int32))).toInt + 1 := by rw [hd1]; exact own_step (L := 1073741824) (by omega) (by omega) (by omega) bm0.1 bm0.2
  have bm1 : 0 ≤ ((((p1.toUInt32 >>> ((8 : Int32) &&& 31).toUInt32).toInt32) &&& (255 : Int32))).toInt ∧ ((((p1.toUInt32 >>> ((8 : Int32) &&& 31).toUInt32).toInt32) &&& (255 : Int32))).toInt < ((2 ^ 8 : Nat) : Int) := own_maskI (m := 255) (k := 8) (by decide) (by decide)
  have c2 : dd2.toInt = dd1.toInt + ((((p1.toUInt32 >>> ((8 : Int32) &&& 31).toUInt32).toInt32) &&& (255 : Int32))).toInt + 1 := by rw [hd2]; exact own_step (L := 1073741824) (by omega) (by omega) (by omega) bm1.1 bm1.2
  have bm2 : 0 ≤ ((((p1.toUInt32 >>> ((16 : Int32) &&& 31).toUInt32).toInt32) &&& (255 : Int32))).toInt ∧ ((((p1.toUInt32 >>> ((16 : Int32) &&& 31).toUInt32).toInt32) &&& (255 : Int32))).toInt < ((2 ^ 8 : Nat) : Int) := own_maskI (m := 255) (k := 8) (by decide) (by decide)
  have c3 : dd3.toInt = dd2.toInt + ((((p1.toUInt32 >>> ((16 : Int32) &&& 31).toUInt32).toInt32) &&& (255 : Int32))).toInt + 1 := by rw [hd3]; exact own_step (L := 1073741824) (by omega) (by omega) (by omega) bm2.1 bm2.2
  have o01 : dd0 < dd1 := Int32.lt_iff_toInt_lt.mpr (by omega)
  have o02 : dd0 < dd2 := Int32.lt_iff_toInt_lt.mpr (by omega)
  have o03 : dd0 < dd3 := Int32.lt_iff_toInt_lt.mpr (by omega)
  have o12 : dd1 < dd2 := Int32.lt_iff_toInt_lt.mpr (by omega)
  have o13 : dd1 < dd3 := Int32.lt_iff_toInt_lt.mpr (by omega)
  have o23 : dd2 < dd3 := Int32.lt_iff_toInt_lt.mpr (by omega)
  obtain ⟨fr, sz, hfr, hsz, hnz, hft, hcc⟩ := own_combo p2 p3
  obtain ⟨T101, h101, k101, X101, e101, E101, A101, st101⟩ := newP X0 hx hZ (own_w hw 0 rfl) e0 (g := (mkF m 48 #[.val (.int p0), .val (.int p1), .val (.int p2), .val (.int p3), .val (.int p4), .val (.int dd0), .val (.int dd1), .val (.int dd2), .val (.int dd3), .unset, .unset, .unset, .unset, .unset, .unset, .unset, .unset, .unset, .unset] [(.int 4)])) rfl (hb hby at_48) rfl (by decide) (cap := 4) (by decide) (by decide) (by decide) (by decide)
  obtain ⟨b101, g101⟩ : ∃ z, z = h0.size := ⟨_, rfl⟩
  rw [← g101] at A101 st101
  have g_b101 : n0 ≤ b101 := Nat.le_trans Z0 (Nat.le_of_eq g101.symm)
  have ZZ102 : n0 ≤ h101.size := Nat.le_trans Z0 E101.1
  have V_b101 : Arv Z h101 b101 k101 .int (4 : Int32) [(.int 0), (.int 0), (.int 0), (.int 0)] (.int 0) := (Arv.new A101 (by decide)).pad (pad_rep [] (.int 0) 4)
  obtain ⟨cl103, Ar103, qk103, Sz103, Nz103, Hh103, Gg103⟩ := id V_b101
  have hin103 : ¬ ((0 : Int32) < 0 ∨ cl103.slots.size ≤ ((0 : Int32)).toNatClampNeg) := inb_of Sz103 ⟨by decide, by decide⟩
  obtain ⟨T104, h104, X104, e104, W104, st104⟩ := stI X101 hx hZ e101 Ar103 (j := (0 : Int32)) hin103 (g := (mkF m 54 #[.val (.int p0), .val (.int p1), .val (.int p2), .val (.int p3), .val (.int p4), .val (.int dd0), .val (.int dd1), .val (.int dd2), .val (.int dd3), .unset, .unset, .unset, .unset, .unset, .unset, .unset, .unset, .unset, .unset] [(.int dd0), (.int 0), (.ref b101), (.ref b101)])) rfl rfl (hb hby at_54)
  have Va104 := Arv.set Ar103 qk103 Sz103 Nz103 Hh103 Gg103 rfl W104 0 rfl (Nat.le_of_ble_eq_true rfl)
  have N104 := Fr.snoc X104 N0 g_b101
  have ZZ105 : n0 ≤ h104.size := Nat.le_trans ZZ102 (Nat.le_of_eq W104.size.symm)
  obtain ⟨cl106, Ar106, qk106, Sz106, Nz106, Hh106, Gg106⟩ := id Va104
  have hin106 : ¬ ((1 : Int32) < 0 ∨ cl106.slots.size ≤ ((1 : Int32)).toNatClampNeg) := inb_of Sz106 ⟨by decide, by decide⟩
  obtain ⟨T107, h107, X107, e107, W107, st107⟩ := stI X104 hx hZ e104 Ar106 (j := (1 : Int32)) hin106 (g := (mkF m 59 #[.val (.int p0), .val (.int p1), .val (.int p2), .val (.int p3), .val (.int p4), .val (.int dd0), .val (.int dd1), .val (.int dd2), .val (.int dd3), .unset, .unset, .unset, .unset, .unset, .unset, .unset, .unset, .unset, .unset] [(.int dd1), (.int 1), (.ref b101), (.ref b101)])) rfl rfl (hb hby at_59)
  have Va107 := Arv.set Ar106 qk106 Sz106 Nz106 Hh106 Gg106 rfl W107 1 rfl (Nat.le_of_ble_eq_true rfl)
  have N107 := Fr.snoc X107 N104 g_b101
  have ZZ108 : n0 ≤ h107.size := Nat.le_trans ZZ105 (Nat.le_of_eq W107.size.symm)
  obtain ⟨cl109, Ar109, qk109, Sz109, Nz109, Hh109, Gg109⟩ := id Va107
  have hin109 : ¬ ((2 : Int32) < 0 ∨ cl109.slots.size ≤ ((2 : Int32)).toNatClampNeg) := inb_of Sz109 ⟨by decide, by decide⟩
  obtain ⟨T110, h110, X110, e110, W110, st110⟩ := stI X107 hx hZ e107 Ar109 (j := (2 : Int32)) hin109 (g := (mkF m 64 #[.val (.int p0), .val (.int p1), .val (.int p2), .val (.int p3), .val (.int p4), .val (.int dd0), .val (.int dd1), .val (.int dd2), .val (.int dd3), .unset, .unset, .unset, .unset, .unset, .unset, .unset, .unset, .unset, .unset] [(.int dd2), (.int 2), (.ref b101), (.ref b101)])) rfl rfl (hb hby at_64)
  have Va110 := Arv.set Ar109 qk109 Sz109 Nz109 Hh109 Gg109 rfl W110 2 rfl (Nat.le_of_ble_eq_true rfl)
  have N110 := Fr.snoc X110 N107 g_b101
  have ZZ111 : n0 ≤ h110.size := Nat.le_trans ZZ108 (Nat.le_of_eq W110.size.symm)
  obtain ⟨cl112, Ar112, qk112, Sz112, Nz112, Hh112, Gg112⟩ := id Va110
  have hin112 : ¬ ((3 : Int32) < 0 ∨ cl112.slots.size ≤ ((3 : Int32)).toNatClampNeg) := inb_of Sz112 ⟨by decide, by decide⟩
  obtain ⟨T113, h113, X113, e113, W113, st113⟩ := stI X110 hx hZ e110 Ar112 (j := (3 : Int32)) hin112 (g := (mkF m 69 #[.val (.int p0), .val (.int p1), .val (.int p2), .val (.int p3), .val (.int p4), .val (.int dd0), .val (.int dd1), .val (.int dd2), .val (.int dd3), .unset, .unset, .unset, .unset, .unset, .unset, .unset, .unset, .unset, .unset] [(.int dd3), (.int 3), (.ref b101), (.ref b101)])) rfl rfl (hb hby at_69)
  have Va113 := Arv.set Ar112 qk112 Sz112 Nz112 Hh112 Gg112 rfl W113 3 rfl (Nat.le_of_ble_eq_true rfl)
  have N113 := Fr.snoc X113 N110 g_b101
  have ZZ114 : n0 ≤ h113.size := Nat.le_trans ZZ111 (Nat.le_of_eq W113.size.symm)
  obtain ⟨T115, h115, k115, X115, e115, E115, A115, st115⟩ := newP X113 hx hZ (own_w hw 1 rfl) e113 (g := (mkF m 73 #[.val (.int p0), .val (.int p1), .val (.int p2), .val (.int p3), .val (.int p4), .val (.int dd0), .val (.int dd1), .val (.int dd2), .val (.int dd3), .val (.ref b101), .unset, .unset, .unset, .unset, .unset, .unset, .unset, .unset, .unset] [(.int 4)])) rfl (hb hby at_73) rfl (by decide) (cap := 4) (by decide) (by decide) (by decide) (by decide)
  obtain ⟨b115, g115⟩ : ∃ z, z = h113.size := ⟨_, rfl⟩
  rw [← g115] at A115 st115
  have g_b115 : n0 ≤ b115 := Nat.le_trans ZZ114 (Nat.le_of_eq g115.symm)
  have ZZ116 : n0 ≤ h115.size := Nat.le_trans ZZ114 E115.1
  have V_b115 : Arv Z h115 b115 k115 .double (4 : Int32) [(.double 0), (.double 0), (.double 0), (.double 0)] (.double 0) := (Arv.new A115 (by decide)).pad (pad_rep [] (.double 0) 4)
  obtain ⟨cl117, Ar117, qk117, Sz117, Nz117, Hh117, Gg117⟩ := id V_b115
  have hin117 : ¬ ((0 : Int32) < 0 ∨ cl117.slots.size ≤ ((0 : Int32)).toNatClampNeg) := inb_of Sz117 ⟨by decide, by decide⟩
  obtain ⟨T118, h118, X118, e118, W118, st118⟩ := stD X115 hx hZ e115 Ar117 (j := (0 : Int32)) hin117 (g := (mkF m 78 #[.val (.int p0), .val (.int p1), .val (.int p2), .val (.int p3), .val (.int p4), .val (.int dd0), .val (.int dd1), .val (.int dd2), .val (.int dd3), .val (.ref b101), .unset, .unset, .unset, .unset, .unset, .unset, .unset, .unset, .unset] [(.double 4607182418800017408), (.int 0), (.ref b115), (.ref b115)])) rfl rfl (hb hby at_78)
  have Va118 := Arv.set Ar117 qk117 Sz117 Nz117 Hh117 Gg117 rfl W118 0 rfl (Nat.le_of_ble_eq_true rfl)
  have N118 := Fr.snoc X118 N113 g_b115
  have ZZ119 : n0 ≤ h118.size := Nat.le_trans ZZ116 (Nat.le_of_eq W118.size.symm)
  obtain ⟨cl120, Ar120, qk120, Sz120, Nz120, Hh120, Gg120⟩ := id Va118
  have hin120 : ¬ ((1 : Int32) < 0 ∨ cl120.slots.size ≤ ((1 : Int32)).toNatClampNeg) := inb_of Sz120 ⟨by decide, by decide⟩
  obtain ⟨T121, h121, X121, e121, W121, st121⟩ := stD X118 hx hZ e118 Ar120 (j := (1 : Int32)) hin120 (g := (mkF m 84 #[.val (.int p0), .val (.int p1), .val (.int p2), .val (.int p3), .val (.int p4), .val (.int dd0), .val (.int dd1), .val (.int dd2), .val (.int dd3), .val (.ref b101), .unset, .unset, .unset, .unset, .unset, .unset, .unset, .unset, .unset] [(.double 4611686018427387904), (.int 1), (.ref b115), (.ref b115)])) rfl rfl (hb hby at_84)
  have Va121 := Arv.set Ar120 qk120 Sz120 Nz120 Hh120 Gg120 rfl W121 1 rfl (Nat.le_of_ble_eq_true rfl)
  have N121 := Fr.snoc X121 N118 g_b115
  have ZZ122 : n0 ≤ h121.size := Nat.le_trans ZZ119 (Nat.le_of_eq W121.size.symm)
  obtain ⟨cl123, Ar123, qk123, Sz123, Nz123, Hh123, Gg123⟩ := id Va121
  have hin123 : ¬ ((2 : Int32) < 0 ∨ cl123.slots.size ≤ ((2 : Int32)).toNatClampNeg) := inb_of Sz123 ⟨by decide, by decide⟩
  obtain ⟨T124, h124, X124, e124, W124, st124⟩ := stD X121 hx hZ e121 Ar123 (j := (2 : Int32)) hin123 (g := (mkF m 90 #[.val (.int p0), .val (.int p1), .val (.int p2), .val (.int p3), .val (.int p4), .val (.int dd0), .val (.int dd1), .val (.int dd2), .val (.int dd3), .val (.ref b101), .unset, .unset, .unset, .unset, .unset, .unset, .unset, .unset, .unset] [(.double 4613937818241073152), (.int 2), (.ref b115), (.ref b115)])) rfl rfl (hb hby at_90)
  have Va124 := Arv.set Ar123 qk123 Sz123 Nz123 Hh123 Gg123 rfl W124 2 rfl (Nat.le_of_ble_eq_true rfl)
  have N124 := Fr.snoc X124 N121 g_b115
  have ZZ125 : n0 ≤ h124.size := Nat.le_trans ZZ122 (Nat.le_of_eq W124.size.symm)
  obtain ⟨cl126, Ar126, qk126, Sz126, Nz126, Hh126, Gg126⟩ := id Va124
  have hin126 : ¬ ((3 : Int32) < 0 ∨ cl126.slots.size ≤ ((3 : Int32)).toNatClampNeg) := inb_of Sz126 ⟨by decide, by decide⟩
  obtain ⟨T127, h127, X127, e127, W127, st127⟩ := stD X124 hx hZ e124 Ar126 (j := (3 : Int32)) hin126 (g := (mkF m 96 #[.val (.int p0), .val (.int p1), .val (.int p2), .val (.int p3), .val (.int p4), .val (.int dd0), .val (.int dd1), .val (.int dd2), .val (.int dd3), .val (.ref b101), .unset, .unset, .unset, .unset, .unset, .unset, .unset, .unset, .unset] [(.double 4616189618054758400), (.int 3), (.ref b115), (.ref b115)])) rfl rfl (hb hby at_96)
  have Va127 := Arv.set Ar126 qk126 Sz126 Nz126 Hh126 Gg126 rfl W127 3 rfl (Nat.le_of_ble_eq_true rfl)
  have N127 := Fr.snoc X127 N124 g_b115
  have ZZ128 : n0 ≤ h127.size := Nat.le_trans ZZ125 (Nat.le_of_eq W127.size.symm)
  obtain ⟨T129, h129, k129, X129, e129, E129, A129, st129⟩ := newP X127 hx hZ (own_w hw 0 rfl) e127 (g := (mkF m 100 #[.val (.int p0), .val (.int p1), .val (.int p2), .val (.int p3), .val (.int p4), .val (.int dd0), .val (.int dd1), .val (.int dd2), .val (.int dd3), .val (.ref b101), .val (.ref b115), .unset, .unset, .unset, .unset, .unset, .unset, .unset, .unset] [(.int 4)])) rfl (hb hby at_100) rfl (by decide) (cap := 4) (by decide) (by decide) (by decide) (by decide)
  obtain ⟨b129, g129⟩ : ∃ z, z = h127.size := ⟨_, rfl⟩
  rw [← g129] at A129 st129
  have g_b129 : n0 ≤ b129 := Nat.le_trans ZZ128 (Nat.le_of_eq g129.symm)
  have ZZ130 : n0 ≤ h129.size := Nat.le_trans ZZ128 E129.1
  have V_b129 : Arv Z h129 b129 k129 .int (4 : Int32) [(.int 0), (.int 0), (.int 0), (.int 0)] (.int 0) := (Arv.new A129 (by decide)).pad (pad_rep [] (.int 0) 4)
  obtain ⟨cl131, Ar131, qk131, Sz131, Nz131, Hh131, Gg131⟩ := id V_b129
  have hin131 : ¬ ((0 : Int32) < 0 ∨ cl131.slots.size ≤ ((0 : Int32)).toNatClampNeg) := inb_of Sz131 ⟨by decide, by decide⟩
  obtain ⟨T132, h132, X132, e132, W132, st132⟩ := stI X129 hx hZ e129 Ar131 (j := (0 : Int32)) hin131 (g := (mkF m 105 #[.val (.int p0), .val (.int p1), .val (.int p2), .val (.int p3), .val (.int p4), .val (.int dd0), .val (.int dd1), .val (.int dd2), .val (.int dd3), .val (.ref b101), .val (.ref b115), .unset, .unset, .unset, .unset, .unset, .unset, .unset, .unset] [(.int 1), (.int 0), (.ref b129), (.ref b129)])) rfl rfl (hb hby at_105)
  have Va132 := Arv.set Ar131 qk131 Sz131 Nz131 Hh131 Gg131 rfl W132 0 rfl (Nat.le_of_ble_eq_true rfl)
  have N132 := Fr.snoc X132 N127 g_b129
  have ZZ133 : n0 ≤ h132.size := Nat.le_trans ZZ130 (Nat.le_of_eq W132.size.symm)
  obtain ⟨cl134, Ar134, qk134, Sz134, Nz134, Hh134, Gg134⟩ := id Va132
  have hin134 : ¬ ((1 : Int32) < 0 ∨ cl134.slots.size ≤ ((1 : Int32)).toNatClampNeg) := inb_of Sz134 ⟨by decide, by decide⟩
  obtain ⟨T135, h135, X135, e135, W135, st135⟩ := stI X132 hx hZ e132 Ar134 (j := (1 : Int32)) hin134 (g := (mkF m 109 #[.val (.int p0), .val (.int p1), .val (.int p2), .val (.int p3), .val (.int p4), .val (.int dd0), .val (.int dd1), .val (.int dd2), .val (.int dd3), .val (.ref b101), .val (.ref b115), .unset, .unset, .unset, .unset, .unset, .unset, .unset, .unset] [(.int 1), (.int 1), (.ref b129), (.ref b129)])) rfl rfl (hb hby at_109)
  have Va135 := Arv.set Ar134 qk134 Sz134 Nz134 Hh134 Gg134 rfl W135 1 rfl (Nat.le_of_ble_eq_true rfl)
  have N135 := Fr.snoc X135 N132 g_b129
  have ZZ136 : n0 ≤ h135.size := Nat.le_trans ZZ133 (Nat.le_of_eq W135.size.symm)
  obtain ⟨cl137, Ar137, qk137, Sz137, Nz137, Hh137, Gg137⟩ := id Va135
  have hin137 : ¬ ((2 : Int32) < 0 ∨ cl137.slots.size ≤ ((2 : Int32)).toNatClampNeg) := inb_of Sz137 ⟨by decide, by decide⟩
  obtain ⟨T138, h138, X138, e138, W138, st138⟩ := stI X135 hx hZ e135 Ar137 (j := (2 : Int32)) hin137 (g := (mkF m 113 #[.val (.int p0), .val (.int p1), .val (.int p2), .val (.int p3), .val (.int p4), .val (.int dd0), .val (.int dd1), .val (.int dd2), .val (.int dd3), .val (.ref b101), .val (.ref b115), .unset, .unset, .unset, .unset, .unset, .unset, .unset, .unset] [(.int 1), (.int 2), (.ref b129), (.ref b129)])) rfl rfl (hb hby at_113)
  have Va138 := Arv.set Ar137 qk137 Sz137 Nz137 Hh137 Gg137 rfl W138 2 rfl (Nat.le_of_ble_eq_true rfl)
  have N138 := Fr.snoc X138 N135 g_b129
  have ZZ139 : n0 ≤ h138.size := Nat.le_trans ZZ136 (Nat.le_of_eq W138.size.symm)
  obtain ⟨cl140, Ar140, qk140, Sz140, Nz140, Hh140, Gg140⟩ := id Va138
  have hin140 : ¬ ((3 : Int32) < 0 ∨ cl140.slots.size ≤ ((3 : Int32)).toNatClampNeg) := inb_of Sz140 ⟨by decide, by decide⟩
  obtain ⟨T141, h141, X141, e141, W141, st141⟩ := stI X138 hx hZ e138 Ar140 (j := (3 : Int32)) hin140 (g := (mkF m 117 #[.val (.int p0), .val (.int p1), .val (.int p2), .val (.int p3), .val (.int p4), .val (.int dd0), .val (.int dd1), .val (.int dd2), .val (.int dd3), .val (.ref b101), .val (.ref b115), .unset, .unset, .unset, .unset, .unset, .unset, .unset, .unset] [(.int 1), (.int 3), (.ref b129), (.ref b129)])) rfl rfl (hb hby at_117)
  have Va141 := Arv.set Ar140 qk140 Sz140 Nz140 Hh140 Gg140 rfl W141 3 rfl (Nat.le_of_ble_eq_true rfl)
  have N141 := Fr.snoc X141 N138 g_b129
  have ZZ142 : n0 ≤ h141.size := Nat.le_trans ZZ139 (Nat.le_of_eq W141.size.symm)
  obtain ⟨T143, h143, X143, e143, E143, A143, D143, -, st143⟩ := newO X141 hx hZ hown (own_w hw 6 rfl) (own_w hw 7 rfl) (own_w hw 8 rfl) e141 (g := (mkF m 143 #[.val (.int p0), .val (.int p1), .val (.int p2), .val (.int p3), .val (.int p4), .val (.int dd0), .val (.int dd1), .val (.int dd2), .val (.int dd3), .val (.ref b101), .val (.ref b115), .val (.ref b129), .val (.int fr), .val (.int sz), .val (.int (fr + sz)), .unset, .unset, .unset, .unset] [])) rfl (hb hby at_143) (by decide) (by decide)
  obtain ⟨b143, g143⟩ : ∃ z, z = h141.size := ⟨_, rfl⟩
  rw [← g143] at A143 D143 st143
  have g_b143 : n0 ≤ b143 := Nat.le_trans ZZ142 (Nat.le_of_eq g143.symm)
  have ZZ144 : n0 ≤ h143.size := Nat.le_trans ZZ142 E143.1
  have F_docs_b143 : Fld Z h143 b143 "com/example/buurt/buurt/model/CrossTermFrequencies" "docs" "[I" .null := D143 (Or.inr (own_w hw 16 rfl)) (ty := (.array .int)) (by decide)
  have F_tfs_b143 : Fld Z h143 b143 "com/example/buurt/buurt/model/CrossTermFrequencies" "tfs" "[D" .null := D143 (Or.inr (own_w hw 18 rfl)) (ty := (.array .double)) (by decide)
  have F_occurs_b143 : Fld Z h143 b143 "com/example/buurt/buurt/model/CrossTermFrequencies" "occurs" "[I" .null := D143 (Or.inr (own_w hw 20 rfl)) (ty := (.array .int)) (by decide)
  have F_from_b143 : Fld Z h143 b143 "com/example/buurt/buurt/model/CrossTermFrequencies" "from" "I" (.int 0) := D143 (Or.inr (own_w hw 22 rfl)) (ty := .int) (by decide)
  have F_to_b143 : Fld Z h143 b143 "com/example/buurt/buurt/model/CrossTermFrequencies" "to" "I" (.int 0) := D143 (Or.inr (own_w hw 24 rfl)) (ty := .int) (by decide)
  have F_documentFrequency_b143 : Fld Z h143 b143 "com/example/buurt/buurt/model/CrossTermFrequencies" "documentFrequency" "D" (.double 0) := D143 (Or.inr (own_w hw 26 rfl)) (ty := .double) (by decide)
  have F_collectionFrequency_b143 : Fld Z h143 b143 "com/example/buurt/buurt/model/CrossTermFrequencies" "collectionFrequency" "D" (.double 0) := D143 (Or.inr (own_w hw 28 rfl)) (ty := .double) (by decide)
  have Fc145 := F_collectionFrequency_b143
  have Fc146 := ((((((Va127.ext E129).other W132 (Nat.ne_of_lt (Nat.lt_of_lt_of_le Va127.lt (Nat.le_of_eq g129.symm)))).other W135 (Nat.ne_of_lt (Nat.lt_of_lt_of_le Va127.lt (Nat.le_of_eq g129.symm)))).other W138 (Nat.ne_of_lt (Nat.lt_of_lt_of_le Va127.lt (Nat.le_of_eq g129.symm)))).other W141 (Nat.ne_of_lt (Nat.lt_of_lt_of_le Va127.lt (Nat.le_of_eq g129.symm)))).ext E143)
  obtain ⟨_, _, ⟨T147, L147, k147, n147⟩, -, X147, ⟨Lc147, hQ147, l147, y147, z147⟩, st147⟩ := X143.specialBack hx (y := (⟨"com/example/buurt/buurt/model/CrossTermFrequencies", "<init>", "([I[D[III)V"⟩ : MethodName)) rfl hown (mvT hZ (own_w hw 9 rfl)) (mvT hZ (own_w hw 10 rfl)) (mvT hZ (own_w hw 11 rfl)) (by decide) (backOf (W := 1) (rm1A l Z a0 hw [] b143 b101 b115 b129 fr (fr + sz) .null .null .null (.int 0) (.int 0) (.double 0) (.double 0) k115 k129 h143 n0 ZZ144 F_docs_b143 F_tfs_b143 F_occurs_b143 F_from_b143 F_to_b143 F_documentFrequency_b143 Fc145 A143 g_b143 Fc146 (Va141.ext E143) (Nat.ne_of_lt (Nat.lt_of_lt_of_le (((((Va127.ext E129).other W132 (Nat.ne_of_lt (Nat.lt_of_lt_of_le Va127.lt (Nat.le_of_eq g129.symm)))).other W135 (Nat.ne_of_lt (Nat.lt_of_lt_of_le Va127.lt (Nat.le_of_eq g129.symm)))).other W138 (Nat.ne_of_lt (Nat.lt_of_lt_of_le Va127.lt (Nat.le_of_eq g129.symm)))).other W141 (Nat.ne_of_lt (Nat.lt_of_lt_of_le Va127.lt (Nat.le_of_eq g129.symm)))).lt (Nat.le_of_eq g143.symm))) (Nat.ne_of_lt (Nat.lt_of_lt_of_le Va141.lt (Nat.le_of_eq g143.symm))) hft) hZ (own_w hw 11 rfl) (own_w hw 8 rfl) (by decide) (by decide)) (g := (mkF m 157 #[.val (.int p0), .val (.int p1), .val (.int p2), .val (.int p3), .val (.int p4), .val (.int dd0), .val (.int dd1), .val (.int dd2), .val (.int dd3), .val (.ref b101), .val (.ref b115), .val (.ref b129), .val (.int fr), .val (.int sz), .val (.int (fr + sz)), .unset, .unset, .unset, .unset] [(.int (fr + sz)), (.int fr), (.ref b129), (.ref b115), (.ref b101), (.ref b143), (.ref b143)])) rfl (by rw [hml]; rfl) (Steps.refl _) (a := b143) (argsL := [(.ref b101), (.ref b115), (.ref b129), (.int fr), (.int (fr + sz))]) (rest := [(.ref b143)]) (lenOf pd2 rfl) rfl (by show 2 * 0 + _ ≤ _; exact Nat.le_of_eq rfl) (hb hby at_157) (fun _ _ => ⟨rfl, e143, (by decide : 4 + 0 ≤ _), (by decide : 19 + 0 ≤ _)⟩)
  dsimp only [Pt.U, Pt.locs, Pt.cells, Pt.slots] at X147 l147 y147 z147 st147 hQ147
  subst l147 y147 z147
  obtain ⟨rfl, Nq147, P147_0, P147_1, P147_2, P147_3, P147_4⟩ := hQ147
  have N147 := Fr.app N141 Nq147
  have ZZ148 : n0 ≤ T147.heap.size := Nat.le_trans ZZ144 P147_0.1
  have pre149 : ∀ t, Steps p.tables e below (T147.setTop (mkF m 164 #[.val (.int p0), .val (.int p1), .val (.int p2), .val (.int p3), .val (.int p4), .val (.int dd0), .val (.int dd1), .val (.int dd2), .val (.int dd3), .val (.ref b101), .val (.ref b115), .val (.ref b129), .val (.int fr), .val (.int sz), .val (.int (fr + sz)), .val (.ref b143), .unset, .unset, .unset] [(.int sz)])) t → Steps p.tables e below (s₁.setTop (mkF m 0 #[.val (.int p0), .val (.int p1), .val (.int p2), .val (.int p3), .val (.int p4), .unset, .unset, .unset, .unset, .unset, .unset, .unset, .unset, .unset, .unset, .unset, .unset, .unset, .unset] [])) t := by
    intro t kt
    show own_S p e below s₁ m 0 #[oI p0, oI p1, oI p2, oI p3, oI p4, oU, oU, oU, oU, oU, oU, oU, oU, oU, oU, oU, oU, oU, oU] [] _
    refine XS.iloadN X0.here hx rfl (hb hby at_0) rfl ?_
    show own_S p e below s₁ m 1 #[oI p0, oI p1, oI p2, oI p3, oI p4, oU, oU, oU, oU, oU, oU, oU, oU, oU, oU, oU, oU, oU, oU] [(.int p0)] _
    refine XS.iconst X0.here hx rfl (hb hby at_1) ?_
    show own_S p e below s₁ m 2 #[oI p0, oI p1, oI p2, oI p3, oI p4, oU, oU, oU, oU, oU, oU, oU, oU, oU, oU, oU, oU, oU, oU] [(.int 2), (.int p0)] _
    refine XS.ishr X0.here hx rfl (hb hby at_2) rfl ?_
    show own_S p e below s₁ m 3 #[oI p0, oI p1, oI p2, oI p3, oI p4, oU, oU, oU, oU, oU, oU, oU, oU, oU, oU, oU, oU, oU, oU] [(.int (p0 >>> ((2 : Int32) &&& 31)))] _
    refine reI (hd0.symm : (p0 >>> ((2 : Int32) &&& 31)) = dd0) ?_
    show own_S p e below s₁ m 3 #[oI p0, oI p1, oI p2, oI p3, oI p4, oU, oU, oU, oU, oU, oU, oU, oU, oU, oU, oU, oU, oU, oU] [(.int dd0)] _
    refine XS.istore X0.here hx rfl (hb hby at_3) rfl (l' := #[.val (.int p0), .val (.int p1), .val (.int p2), .val (.int p3), .val (.int p4), .val (.int dd0), .unset, .unset, .unset, .unset, .unset, .unset, .unset, .unset, .unset, .unset, .unset, .unset, .unset]) rfl ?_
    show own_S p e below s₁ m 5 #[oI p0, oI p1, oI p2, oI p3, oI p4, oI dd0, oU, oU, oU, oU, oU, oU, oU, oU, oU, oU, oU, oU, oU] [] _
    refine XS.iload X0.here hx rfl (hb hby at_5) rfl ?_
    show own_S p e below s₁ m 7 #[oI p0, oI p1, oI p2, oI p3, oI p4, oI dd0, oU, oU, oU, oU, oU, oU, oU, oU, oU, oU, oU, oU, oU] [(.int dd0)] _
    refine XS.iloadN X0.here hx rfl (hb hby at_7) rfl ?_
    show own_S p e below s₁ m 8 #[oI p0, oI p1, oI p2, oI p3, oI p4, oI dd0, oU, oU, oU, oU, oU, oU, oU, oU, oU, oU, oU, oU, oU] [(.int p1), (.int dd0)] _
    refine XS.sipush X0.here hx rfl (hb hby at_8) ?_
    show own_S p e below s₁ m 11 #[oI p0, oI p1, oI p2, oI p3, oI p4, oI dd0, oU, oU, oU, oU, oU, oU, oU, oU, oU, oU, oU, oU, oU] [(.int 255), (.int p1), (.int dd0)] _
    refine XS.iand X0.here hx rfl (hb hby at_11) rfl ?_
    show own_S p e below s₁ m 12 #[oI p0, oI p1, oI p2, oI p3, oI p4, oI dd0, oU, oU, oU, oU, oU, oU, oU, oU, oU, oU, oU, oU, oU] [(.int (p1 &&& (255 : Int32))), (.int dd0)] _
    refine XS.iadd X0.here hx rfl (hb hby at_12) rfl ?_
    show own_S p e below s₁ m 13 #[oI p0, oI p1, oI p2, oI p3, oI p4, oI dd0, oU, oU, oU, oU, oU, oU, oU, oU, oU, oU, oU, oU, oU] [(.int (dd0 + (p1 &&& (255 : Int32))))] _
    refine XS.iconst X0.here hx rfl (hb hby at_13) ?_
    show own_S p e below s₁ m 14 #[oI p0, oI p1, oI p2, oI p3, oI p4, oI dd0, oU, oU, oU, oU, oU, oU, oU, oU, oU, oU, oU, oU, oU] [(.int 1), (.int (dd0 + (p1 &&& (255 : Int32))))] _
    refine XS.iadd X0.here hx rfl (hb hby at_14) rfl ?_
    show own_S p e below s₁ m 15 #[oI p0, oI p1, oI p2, oI p3, oI p4, oI dd0, oU, oU, oU, oU, oU, oU, oU, oU, oU, oU, oU, oU, oU] [(.int ((dd0 + (p1 &&& (255 : Int32))) + (1 : Int32)))] _
    refine reI (hd1.symm : ((dd0 + (p1 &&& (255 : Int32))) + (1 : Int32)) = dd1) ?_
    show own_S p e below s₁ m 15 #[oI p0, oI p1, oI p2, oI p3, oI p4, oI dd0, oU, oU, oU, oU, oU, oU, oU, oU, oU, oU, oU, oU, oU] [(.int dd1)] _
    refine XS.istore X0.here hx rfl (hb hby at_15) rfl (l' := #[.val (.int p0), .val (.int p1), .val (.int p2), .val (.int p3), .val (.int p4), .val (.int dd0), .val (.int dd1), .unset, .unset, .unset, .unset, .unset, .unset, .unset, .unset, .unset, .unset, .unset, .unset]) rfl ?_
    show own_S p e below s₁ m 17 #[oI p0, oI p1, oI p2, oI p3, oI p4, oI dd0, oI dd1, oU, oU, oU, oU, oU, oU, oU, oU, oU, oU, oU, oU] [] _
    refine XS.iload X0.here hx rfl (hb hby at_17) rfl ?_
    show own_S p e below s₁ m 19 #[oI p0, oI p1, oI p2, oI p3, oI p4, oI dd0, oI dd1, oU, oU, oU, oU, oU, oU, oU, oU, oU, oU, oU, oU] [(.int dd1)] _
    refine XS.iloadN X0.here hx rfl (hb hby at_19) rfl ?_
    show own_S p e below s₁ m 20 #[oI p0, oI p1, oI p2, oI p3, oI p4, oI dd0, oI dd1, oU, oU, oU, oU, oU, oU, oU, oU, oU, oU, oU, oU] [(.int p1), (.int dd1)] _
    refine XS.bipush X0.here hx rfl (hb hby at_20) ?_
    show own_S p e below s₁ m 22 #[oI p0, oI p1, oI p2, oI p3, oI p4, oI dd0, oI dd1, oU, oU, oU, oU, oU, oU, oU, oU, oU, oU, oU, oU] [(.int 8), (.int p1), (.int dd1)] _
    refine XS.iushr X0.here hx rfl (hb hby at_22) rfl ?_
    show own_S p e below s₁ m 23 #[oI p0, oI p1, oI p2, oI p3, oI p4, oI dd0, oI dd1, oU, oU, oU, oU, oU, oU, oU, oU, oU, oU, oU, oU] [(.int ((p1.toUInt32 >>> ((8 : Int32) &&& 31).toUInt32).toInt32)), (.int dd1)] _
    refine XS.sipush X0.here hx rfl (hb hby at_23) ?_
    show own_S p e below s₁ m 26 #[oI p0, oI p1, oI p2, oI p3, oI p4, oI dd0, oI dd1, oU, oU, oU, oU, oU, oU, oU, oU, oU, oU, oU, oU] [(.int 255), (.int ((p1.toUInt32 >>> ((8 : Int32) &&& 31).toUInt32).toInt32)), (.int dd1)] _
    refine XS.iand X0.here hx rfl (hb hby at_26) rfl ?_
    show own_S p e below s₁ m 27 #[oI p0, oI p1, oI p2, oI p3, oI p4, oI dd0, oI dd1, oU, oU, oU, oU, oU, oU, oU, oU, oU, oU, oU, oU] [(.int (((p1.toUInt32 >>> ((8 : Int32) &&& 31).toUInt32).toInt32) &&& (255 : Int32))), (.int dd1)] _
    refine XS.iadd X0.here hx rfl (hb hby at_27) rfl ?_
    show own_S p e below s₁ m 28 #[oI p0, oI p1, oI p2, oI p3, oI p4, oI dd0, oI dd1, oU, oU, oU, oU, oU, oU, oU, oU, oU, oU, oU, oU] [(.int (dd1 + (((p1.toUInt32 >>> ((8 : Int32) &&& 31).toUInt32).toInt32) &&& (255 : Int32))))] _
    refine XS.iconst X0.here hx rfl (hb hby at_28) ?_
    show own_S p e below s₁ m 29 #[oI p0, oI p1, oI p2, oI p3, oI p4, oI dd0, oI dd1, oU, oU, oU, oU, oU, oU, oU, oU, oU, oU, oU, oU] [(.int 1), (.int (dd1 + (((p1.toUInt32 >>> ((8 : Int32) &&& 31).toUInt32).toInt32) &&& (255 : Int32))))] _
    refine XS.iadd X0.here hx rfl (hb hby at_29) rfl ?_
    show own_S p e below s₁ m 30 #[oI p0, oI p1, oI p2, oI p3, oI p4, oI dd0, oI dd1, oU, oU, oU, oU, oU, oU, oU, oU, oU, oU, oU, oU] [(.int ((dd1 + (((p1.toUInt32 >>> ((8 : Int32) &&& 31).toUInt32).toInt32) &&& (255 : Int32))) + (1 : Int32)))] _
    refine reI (hd2.symm : ((dd1 + (((p1.toUInt32 >>> ((8 : Int32) &&& 31).toUInt32).toInt32) &&& (255 : Int32))) + (1 : Int32)) = dd2) ?_
    show own_S p e below s₁ m 30 #[oI p0, oI p1, oI p2, oI p3, oI p4, oI dd0, oI dd1, oU, oU, oU, oU, oU, oU, oU, oU, oU, oU, oU, oU] [(.int dd2)] _
    refine XS.istore X0.here hx rfl (hb hby at_30) rfl (l' := #[.val (.int p0), .val (.int p1), .val (.int p2), .val (.int p3), .val (.int p4), .val (.int dd0), .val (.int dd1), .val (.int dd2), .unset, .unset, .unset, .unset, .unset, .unset, .unset, .unset, .unset, .unset, .unset]) rfl ?_
    show own_S p e below s₁ m 32 #[oI p0, oI p1, oI p2, oI p3, oI p4, oI dd0, oI dd1, oI dd2, oU, oU, oU, oU, oU, oU, oU, oU, oU, oU, oU] [] _
    refine XS.iload X0.here hx rfl (hb hby at_32) rfl ?_
    show own_S p e below s₁ m 34 #[oI p0, oI p1, oI p2, oI p3, oI p4, oI dd0, oI dd1, oI dd2, oU, oU, oU, oU, oU, oU, oU, oU, oU, oU, oU] [(.int dd2)] _
    refine XS.iloadN X0.here hx rfl (hb hby at_34) rfl ?_
    show own_S p e below s₁ m 35 #[oI p0, oI p1, oI p2, oI p3, oI p4, oI dd0, oI dd1, oI dd2, oU, oU, oU, oU, oU, oU, oU, oU, oU, oU, oU] [(.int p1), (.int dd2)] _
    refine XS.bipush X0.here hx rfl (hb hby at_35) ?_
    show own_S p e below s₁ m 37 #[oI p0, oI p1, oI p2, oI p3, oI p4, oI dd0, oI dd1, oI dd2, oU, oU, oU, oU, oU, oU, oU, oU, oU, oU, oU] [(.int 16), (.int p1), (.int dd2)] _
    refine XS.iushr X0.here hx rfl (hb hby at_37) rfl ?_
    show own_S p e below s₁ m 38 #[oI p0, oI p1, oI p2, oI p3, oI p4, oI dd0, oI dd1, oI dd2, oU, oU, oU, oU, oU, oU, oU, oU, oU, oU, oU] [(.int ((p1.toUInt32 >>> ((16 : Int32) &&& 31).toUInt32).toInt32)), (.int dd2)] _
    refine XS.sipush X0.here hx rfl (hb hby at_38) ?_
    show own_S p e below s₁ m 41 #[oI p0, oI p1, oI p2, oI p3, oI p4, oI dd0, oI dd1, oI dd2, oU, oU, oU, oU, oU, oU, oU, oU, oU, oU, oU] [(.int 255), (.int ((p1.toUInt32 >>> ((16 : Int32) &&& 31).toUInt32).toInt32)), (.int dd2)] _
    refine XS.iand X0.here hx rfl (hb hby at_41) rfl ?_
    show own_S p e below s₁ m 42 #[oI p0, oI p1, oI p2, oI p3, oI p4, oI dd0, oI dd1, oI dd2, oU, oU, oU, oU, oU, oU, oU, oU, oU, oU, oU] [(.int (((p1.toUInt32 >>> ((16 : Int32) &&& 31).toUInt32).toInt32) &&& (255 : Int32))), (.int dd2)] _
    refine XS.iadd X0.here hx rfl (hb hby at_42) rfl ?_
    show own_S p e below s₁ m 43 #[oI p0, oI p1, oI p2, oI p3, oI p4, oI dd0, oI dd1, oI dd2, oU, oU, oU, oU, oU, oU, oU, oU, oU, oU, oU] [(.int (dd2 + (((p1.toUInt32 >>> ((16 : Int32) &&& 31).toUInt32).toInt32) &&& (255 : Int32))))] _
    refine XS.iconst X0.here hx rfl (hb hby at_43) ?_
    show own_S p e below s₁ m 44 #[oI p0, oI p1, oI p2, oI p3, oI p4, oI dd0, oI dd1, oI dd2, oU, oU, oU, oU, oU, oU, oU, oU, oU, oU, oU] [(.int 1), (.int (dd2 + (((p1.toUInt32 >>> ((16 : Int32) &&& 31).toUInt32).toInt32) &&& (255 : Int32))))] _
    refine XS.iadd X0.here hx rfl (hb hby at_44) rfl ?_
    show own_S p e below s₁ m 45 #[oI p0, oI p1, oI p2, oI p3, oI p4, oI dd0, oI dd1, oI dd2, oU, oU, oU, oU, oU, oU, oU, oU, oU, oU, oU] [(.int ((dd2 + (((p1.toUInt32 >>> ((16 : Int32) &&& 31).toUInt32).toInt32) &&& (255 : Int32))) + (1 : Int32)))] _
    refine reI (hd3.symm : ((dd2 + (((p1.toUInt32 >>> ((16 : Int32) &&& 31).toUInt32).toInt32) &&& (255 : Int32))) + (1 : Int32)) = dd3) ?_
    show own_S p e below s₁ m 45 #[oI p0, oI p1, oI p2, oI p3, oI p4, oI dd0, oI dd1, oI dd2, oU, oU, oU, oU, oU, oU, oU, oU, oU, oU, oU] [(.int dd3)] _
    refine XS.istore X0.here hx rfl (hb hby at_45) rfl (l' := #[.val (.int p0), .val (.int p1), .val (.int p2), .val (.int p3), .val (.int p4), .val (.int dd0), .val (.int dd1), .val (.int dd2), .val (.int dd3), .unset, .unset, .unset, .unset, .unset, .unset, .unset, .unset, .unset, .unset]) rfl ?_
    show own_S p e below s₁ m 47 #[oI p0, oI p1, oI p2, oI p3, oI p4, oI dd0, oI dd1, oI dd2, oI dd3, oU, oU, oU, oU, oU, oU, oU, oU, oU, oU] [] _
    refine XS.iconst X0.here hx rfl (hb hby at_47) ?_
    show own_S p e below s₁ m 48 #[oI p0, oI p1, oI p2, oI p3, oI p4, oI dd0, oI dd1, oI dd2, oI dd3, oU, oU, oU, oU, oU, oU, oU, oU, oU, oU] [(.int 4)] _
    refine st101 _ ?_
    show own_S p e below T101 m 50 #[oI p0, oI p1, oI p2, oI p3, oI p4, oI dd0, oI dd1, oI dd2, oI dd3, oU, oU, oU, oU, oU, oU, oU, oU, oU, oU] [(.ref b101)] _
    refine XS.dup X101.here hx rfl (hb hby at_50) rfl rfl ?_
    show own_S p e below T101 m 51 #[oI p0, oI p1, oI p2, oI p3, oI p4, oI dd0, oI dd1, oI dd2, oI dd3, oU, oU, oU, oU, oU, oU, oU, oU, oU, oU] [(.ref b101), (.ref b101)] _
    refine XS.iconst X101.here hx rfl (hb hby at_51) ?_
    show own_S p e below T101 m 52 #[oI p0, oI p1, oI p2, oI p3, oI p4, oI dd0, oI dd1, oI dd2, oI dd3, oU, oU, oU, oU, oU, oU, oU, oU, oU, oU] [(.int 0), (.ref b101), (.ref b101)] _
    refine XS.iload X101.here hx rfl (hb hby at_52) rfl ?_
    show own_S p e below T101 m 54 #[oI p0, oI p1, oI p2, oI p3, oI p4, oI dd0, oI dd1, oI dd2, oI dd3, oU, oU, oU, oU, oU, oU, oU, oU, oU, oU] [(.int dd0), (.int 0), (.ref b101), (.ref b101)] _
    refine st104 _ ?_
    show own_S p e below T104 m 55 #[oI p0, oI p1, oI p2, oI p3, oI p4, oI dd0, oI dd1, oI dd2, oI dd3, oU, oU, oU, oU, oU, oU, oU, oU, oU, oU] [(.ref b101)] _
    refine XS.dup X104.here hx rfl (hb hby at_55) rfl rfl ?_
    show own_S p e below T104 m 56 #[oI p0, oI p1, oI p2, oI p3, oI p4, oI dd0, oI dd1, oI dd2, oI dd3, oU, oU, oU, oU, oU, oU, oU, oU, oU, oU] [(.ref b101), (.ref b101)] _
    refine XS.iconst X104.here hx rfl (hb hby at_56) ?_
    show own_S p e below T104 m 57 #[oI p0, oI p1, oI p2, oI p3, oI p4, oI dd0, oI dd1, oI dd2, oI dd3, oU, oU, oU, oU, oU, oU, oU, oU, oU, oU] [(.int 1), (.ref b101), (.ref b101)] _
    refine XS.iload X104.here hx rfl (hb hby at_57) rfl ?_
    show own_S p e below T104 m 59 #[oI p0, oI p1, oI p2, oI p3, oI p4, oI dd0, oI dd1, oI dd2, oI dd3, oU, oU, oU, oU, oU, oU, oU, oU, oU, oU] [(.int dd1), (.int 1), (.ref b101), (.ref b101)] _
    refine st107 _ ?_
    show own_S p e below T107 m 60 #[oI p0, oI p1, oI p2, oI p3, oI p4, oI dd0, oI dd1, oI dd2, oI dd3, oU, oU, oU, oU, oU, oU, oU, oU, oU, oU] [(.ref b101)] _
    refine XS.dup X107.here hx rfl (hb hby at_60) rfl rfl ?_
    show own_S p e below T107 m 61 #[oI p0, oI p1, oI p2, oI p3, oI p4, oI dd0, oI dd1, oI dd2, oI dd3, oU, oU, oU, oU, oU, oU, oU, oU, oU, oU] [(.ref b101), (.ref b101)] _
    refine XS.iconst X107.here hx rfl (hb hby at_61) ?_
    show own_S p e below T107 m 62 #[oI p0, oI p1, oI p2, oI p3, oI p4, oI dd0, oI dd1, oI dd2, oI dd3, oU, oU, oU, oU, oU, oU, oU, oU, oU, oU] [(.int 2), (.ref b101), (.ref b101)] _
    refine XS.iload X107.here hx rfl (hb hby at_62) rfl ?_
    show own_S p e below T107 m 64 #[oI p0, oI p1, oI p2, oI p3, oI p4, oI dd0, oI dd1, oI dd2, oI dd3, oU, oU, oU, oU, oU, oU, oU, oU, oU, oU] [(.int dd2), (.int 2), (.ref b101), (.ref b101)] _
    refine st110 _ ?_
    show own_S p e below T110 m 65 #[oI p0, oI p1, oI p2, oI p3, oI p4, oI dd0, oI dd1, oI dd2, oI dd3, oU, oU, oU, oU, oU, oU, oU, oU, oU, oU] [(.ref b101)] _
    refine XS.dup X110.here hx rfl (hb hby at_65) rfl rfl ?_
    show own_S p e below T110 m 66 #[oI p0, oI p1, oI p2, oI p3, oI p4, oI dd0, oI dd1, oI dd2, oI dd3, oU, oU, oU, oU, oU, oU, oU, oU, oU, oU] [(.ref b101), (.ref b101)] _
    refine XS.iconst X110.here hx rfl (hb hby at_66) ?_
    show own_S p e below T110 m 67 #[oI p0, oI p1, oI p2, oI p3, oI p4, oI dd0, oI dd1, oI dd2, oI dd3, oU, oU, oU, oU, oU, oU, oU, oU, oU, oU] [(.int 3), (.ref b101), (.ref b101)] _
    refine XS.iload X110.here hx rfl (hb hby at_67) rfl ?_
    show own_S p e below T110 m 69 #[oI p0, oI p1, oI p2, oI p3, oI p4, oI dd0, oI dd1, oI dd2, oI dd3, oU, oU, oU, oU, oU, oU, oU, oU, oU, oU] [(.int dd3), (.int 3), (.ref b101), (.ref b101)] _
    refine st113 _ ?_
    show own_S p e below T113 m 70 #[oI p0, oI p1, oI p2, oI p3, oI p4, oI dd0, oI dd1, oI dd2, oI dd3, oU, oU, oU, oU, oU, oU, oU, oU, oU, oU] [(.ref b101)] _
    refine XS.astore X113.here hx rfl (hb hby at_70) rfl rfl (l' := #[.val (.int p0), .val (.int p1), .val (.int p2), .val (.int p3), .val (.int p4), .val (.int dd0), .val (.int dd1), .val (.int dd2), .val (.int dd3), .val (.ref b101), .unset, .unset, .unset, .unset, .unset, .unset, .unset, .unset, .unset]) rfl ?_
    show own_S p e below T113 m 72 #[oI p0, oI p1, oI p2, oI p3, oI p4, oI dd0, oI dd1, oI dd2, oI dd3, oR b101, oU, oU, oU, oU, oU, oU, oU, oU, oU] [] _
    refine XS.iconst X113.here hx rfl (hb hby at_72) ?_
    show own_S p e below T113 m 73 #[oI p0, oI p1, oI p2, oI p3, oI p4, oI dd0, oI dd1, oI dd2, oI dd3, oR b101, oU, oU, oU, oU, oU, oU, oU, oU, oU] [(.int 4)] _
    refine st115 _ ?_
    show own_S p e below T115 m 75 #[oI p0, oI p1, oI p2, oI p3, oI p4, oI dd0, oI dd1, oI dd2, oI dd3, oR b101, oU, oU, oU, oU, oU, oU, oU, oU, oU] [(.ref b115)] _
    refine XS.dup X115.here hx rfl (hb hby at_75) rfl rfl ?_
    show own_S p e below T115 m 76 #[oI p0, oI p1, oI p2, oI p3, oI p4, oI dd0, oI dd1, oI dd2, oI dd3, oR b101, oU, oU, oU, oU, oU, oU, oU, oU, oU] [(.ref b115), (.ref b115)] _
    refine XS.iconst X115.here hx rfl (hb hby at_76) ?_
    show own_S p e below T115 m 77 #[oI p0, oI p1, oI p2, oI p3, oI p4, oI dd0, oI dd1, oI dd2, oI dd3, oR b101, oU, oU, oU, oU, oU, oU, oU, oU, oU] [(.int 0), (.ref b115), (.ref b115)] _
    refine XS.dconst1 X115.here hx rfl (v := 4607182418800017408) (hb hby at_77) rfl ?_
    show own_S p e below T115 m 78 #[oI p0, oI p1, oI p2, oI p3, oI p4, oI dd0, oI dd1, oI dd2, oI dd3, oR b101, oU, oU, oU, oU, oU, oU, oU, oU, oU] [(.double 4607182418800017408), (.int 0), (.ref b115), (.ref b115)] _
    refine st118 _ ?_
    show own_S p e below T118 m 79 #[oI p0, oI p1, oI p2, oI p3, oI p4, oI dd0, oI dd1, oI dd2, oI dd3, oR b101, oU, oU, oU, oU, oU, oU, oU, oU, oU] [(.ref b115)] _
    refine XS.dup X118.here hx rfl (hb hby at_79) rfl rfl ?_
    show own_S p e below T118 m 80 #[oI p0, oI p1, oI p2, oI p3, oI p4, oI dd0, oI dd1, oI dd2, oI dd3, oR b101, oU, oU, oU, oU, oU, oU, oU, oU, oU] [(.ref b115), (.ref b115)] _
    refine XS.iconst X118.here hx rfl (hb hby at_80) ?_
    show own_S p e below T118 m 81 #[oI p0, oI p1, oI p2, oI p3, oI p4, oI dd0, oI dd1, oI dd2, oI dd3, oR b101, oU, oU, oU, oU, oU, oU, oU, oU, oU] [(.int 1), (.ref b115), (.ref b115)] _
    refine X118.ldc2DoubleC hx hown (mvT hZ (own_w hw 2 rfl)) (g := (mkF m 81 #[.val (.int p0), .val (.int p1), .val (.int p2), .val (.int p3), .val (.int p4), .val (.int dd0), .val (.int dd1), .val (.int dd2), .val (.int dd3), .val (.ref b101), .unset, .unset, .unset, .unset, .unset, .unset, .unset, .unset, .unset] [(.int 1), (.ref b115), (.ref b115)])) rfl (hb hby at_81) _ ?_
    show own_S p e below T118 m 84 #[oI p0, oI p1, oI p2, oI p3, oI p4, oI dd0, oI dd1, oI dd2, oI dd3, oR b101, oU, oU, oU, oU, oU, oU, oU, oU, oU] [(.double 4611686018427387904), (.int 1), (.ref b115), (.ref b115)] _
    refine st121 _ ?_
    show own_S p e below T121 m 85 #[oI p0, oI p1, oI p2, oI p3, oI p4, oI dd0, oI dd1, oI dd2, oI dd3, oR b101, oU, oU, oU, oU, oU, oU, oU, oU, oU] [(.ref b115)] _
    refine XS.dup X121.here hx rfl (hb hby at_85) rfl rfl ?_
    show own_S p e below T121 m 86 #[oI p0, oI p1, oI p2, oI p3, oI p4, oI dd0, oI dd1, oI dd2, oI dd3, oR b101, oU, oU, oU, oU, oU, oU, oU, oU, oU] [(.ref b115), (.ref b115)] _
    refine XS.iconst X121.here hx rfl (hb hby at_86) ?_
    show own_S p e below T121 m 87 #[oI p0, oI p1, oI p2, oI p3, oI p4, oI dd0, oI dd1, oI dd2, oI dd3, oR b101, oU, oU, oU, oU, oU, oU, oU, oU, oU] [(.int 2), (.ref b115), (.ref b115)] _
    refine X121.ldc2DoubleC hx hown (mvT hZ (own_w hw 3 rfl)) (g := (mkF m 87 #[.val (.int p0), .val (.int p1), .val (.int p2), .val (.int p3), .val (.int p4), .val (.int dd0), .val (.int dd1), .val (.int dd2), .val (.int dd3), .val (.ref b101), .unset, .unset, .unset, .unset, .unset, .unset, .unset, .unset, .unset] [(.int 2), (.ref b115), (.ref b115)])) rfl (hb hby at_87) _ ?_
    show own_S p e below T121 m 90 #[oI p0, oI p1, oI p2, oI p3, oI p4, oI dd0, oI dd1, oI dd2, oI dd3, oR b101, oU, oU, oU, oU, oU, oU, oU, oU, oU] [(.double 4613937818241073152), (.int 2), (.ref b115), (.ref b115)] _
    refine st124 _ ?_
    show own_S p e below T124 m 91 #[oI p0, oI p1, oI p2, oI p3, oI p4, oI dd0, oI dd1, oI dd2, oI dd3, oR b101, oU, oU, oU, oU, oU, oU, oU, oU, oU] [(.ref b115)] _
    refine XS.dup X124.here hx rfl (hb hby at_91) rfl rfl ?_
    show own_S p e below T124 m 92 #[oI p0, oI p1, oI p2, oI p3, oI p4, oI dd0, oI dd1, oI dd2, oI dd3, oR b101, oU, oU, oU, oU, oU, oU, oU, oU, oU] [(.ref b115), (.ref b115)] _
    refine XS.iconst X124.here hx rfl (hb hby at_92) ?_
    show own_S p e below T124 m 93 #[oI p0, oI p1, oI p2, oI p3, oI p4, oI dd0, oI dd1, oI dd2, oI dd3, oR b101, oU, oU, oU, oU, oU, oU, oU, oU, oU] [(.int 3), (.ref b115), (.ref b115)] _
    refine X124.ldc2DoubleC hx hown (mvT hZ (own_w hw 4 rfl)) (g := (mkF m 93 #[.val (.int p0), .val (.int p1), .val (.int p2), .val (.int p3), .val (.int p4), .val (.int dd0), .val (.int dd1), .val (.int dd2), .val (.int dd3), .val (.ref b101), .unset, .unset, .unset, .unset, .unset, .unset, .unset, .unset, .unset] [(.int 3), (.ref b115), (.ref b115)])) rfl (hb hby at_93) _ ?_
    show own_S p e below T124 m 96 #[oI p0, oI p1, oI p2, oI p3, oI p4, oI dd0, oI dd1, oI dd2, oI dd3, oR b101, oU, oU, oU, oU, oU, oU, oU, oU, oU] [(.double 4616189618054758400), (.int 3), (.ref b115), (.ref b115)] _
    refine st127 _ ?_
    show own_S p e below T127 m 97 #[oI p0, oI p1, oI p2, oI p3, oI p4, oI dd0, oI dd1, oI dd2, oI dd3, oR b101, oU, oU, oU, oU, oU, oU, oU, oU, oU] [(.ref b115)] _
    refine XS.astore X127.here hx rfl (hb hby at_97) rfl rfl (l' := #[.val (.int p0), .val (.int p1), .val (.int p2), .val (.int p3), .val (.int p4), .val (.int dd0), .val (.int dd1), .val (.int dd2), .val (.int dd3), .val (.ref b101), .val (.ref b115), .unset, .unset, .unset, .unset, .unset, .unset, .unset, .unset]) rfl ?_
    show own_S p e below T127 m 99 #[oI p0, oI p1, oI p2, oI p3, oI p4, oI dd0, oI dd1, oI dd2, oI dd3, oR b101, oR b115, oU, oU, oU, oU, oU, oU, oU, oU] [] _
    refine XS.iconst X127.here hx rfl (hb hby at_99) ?_
    show own_S p e below T127 m 100 #[oI p0, oI p1, oI p2, oI p3, oI p4, oI dd0, oI dd1, oI dd2, oI dd3, oR b101, oR b115, oU, oU, oU, oU, oU, oU, oU, oU] [(.int 4)] _
    refine st129 _ ?_
    show own_S p e below T129 m 102 #[oI p0, oI p1, oI p2, oI p3, oI p4, oI dd0, oI dd1, oI dd2, oI dd3, oR b101, oR b115, oU, oU, oU, oU, oU, oU, oU, oU] [(.ref b129)] _
    refine XS.dup X129.here hx rfl (hb hby at_102) rfl rfl ?_
    show own_S p e below T129 m 103 #[oI p0, oI p1, oI p2, oI p3, oI p4, oI dd0, oI dd1, oI dd2, oI dd3, oR b101, oR b115, oU, oU, oU, oU, oU, oU, oU, oU] [(.ref b129), (.ref b129)] _
    refine XS.iconst X129.here hx rfl (hb hby at_103) ?_
    show own_S p e below T129 m 104 #[oI p0, oI p1, oI p2, oI p3, oI p4, oI dd0, oI dd1, oI dd2, oI dd3, oR b101, oR b115, oU, oU, oU, oU, oU, oU, oU, oU] [(.int 0), (.ref b129), (.ref b129)] _
    refine XS.iconst X129.here hx rfl (hb hby at_104) ?_
    show own_S p e below T129 m 105 #[oI p0, oI p1, oI p2, oI p3, oI p4, oI dd0, oI dd1, oI dd2, oI dd3, oR b101, oR b115, oU, oU, oU, oU, oU, oU, oU, oU] [(.int 1), (.int 0), (.ref b129), (.ref b129)] _
    refine st132 _ ?_
    show own_S p e below T132 m 106 #[oI p0, oI p1, oI p2, oI p3, oI p4, oI dd0, oI dd1, oI dd2, oI dd3, oR b101, oR b115, oU, oU, oU, oU, oU, oU, oU, oU] [(.ref b129)] _
    refine XS.dup X132.here hx rfl (hb hby at_106) rfl rfl ?_
    show own_S p e below T132 m 107 #[oI p0, oI p1, oI p2, oI p3, oI p4, oI dd0, oI dd1, oI dd2, oI dd3, oR b101, oR b115, oU, oU, oU, oU, oU, oU, oU, oU] [(.ref b129), (.ref b129)] _
    refine XS.iconst X132.here hx rfl (hb hby at_107) ?_
    show own_S p e below T132 m 108 #[oI p0, oI p1, oI p2, oI p3, oI p4, oI dd0, oI dd1, oI dd2, oI dd3, oR b101, oR b115, oU, oU, oU, oU, oU, oU, oU, oU] [(.int 1), (.ref b129), (.ref b129)] _
    refine XS.iconst X132.here hx rfl (hb hby at_108) ?_
    show own_S p e below T132 m 109 #[oI p0, oI p1, oI p2, oI p3, oI p4, oI dd0, oI dd1, oI dd2, oI dd3, oR b101, oR b115, oU, oU, oU, oU, oU, oU, oU, oU] [(.int 1), (.int 1), (.ref b129), (.ref b129)] _
    refine st135 _ ?_
    show own_S p e below T135 m 110 #[oI p0, oI p1, oI p2, oI p3, oI p4, oI dd0, oI dd1, oI dd2, oI dd3, oR b101, oR b115, oU, oU, oU, oU, oU, oU, oU, oU] [(.ref b129)] _
    refine XS.dup X135.here hx rfl (hb hby at_110) rfl rfl ?_
    show own_S p e below T135 m 111 #[oI p0, oI p1, oI p2, oI p3, oI p4, oI dd0, oI dd1, oI dd2, oI dd3, oR b101, oR b115, oU, oU, oU, oU, oU, oU, oU, oU] [(.ref b129), (.ref b129)] _
    refine XS.iconst X135.here hx rfl (hb hby at_111) ?_
    show own_S p e below T135 m 112 #[oI p0, oI p1, oI p2, oI p3, oI p4, oI dd0, oI dd1, oI dd2, oI dd3, oR b101, oR b115, oU, oU, oU, oU, oU, oU, oU, oU] [(.int 2), (.ref b129), (.ref b129)] _
    refine XS.iconst X135.here hx rfl (hb hby at_112) ?_
    show own_S p e below T135 m 113 #[oI p0, oI p1, oI p2, oI p3, oI p4, oI dd0, oI dd1, oI dd2, oI dd3, oR b101, oR b115, oU, oU, oU, oU, oU, oU, oU, oU] [(.int 1), (.int 2), (.ref b129), (.ref b129)] _
    refine st138 _ ?_
    show own_S p e below T138 m 114 #[oI p0, oI p1, oI p2, oI p3, oI p4, oI dd0, oI dd1, oI dd2, oI dd3, oR b101, oR b115, oU, oU, oU, oU, oU, oU, oU, oU] [(.ref b129)] _
    refine XS.dup X138.here hx rfl (hb hby at_114) rfl rfl ?_
    show own_S p e below T138 m 115 #[oI p0, oI p1, oI p2, oI p3, oI p4, oI dd0, oI dd1, oI dd2, oI dd3, oR b101, oR b115, oU, oU, oU, oU, oU, oU, oU, oU] [(.ref b129), (.ref b129)] _
    refine XS.iconst X138.here hx rfl (hb hby at_115) ?_
    show own_S p e below T138 m 116 #[oI p0, oI p1, oI p2, oI p3, oI p4, oI dd0, oI dd1, oI dd2, oI dd3, oR b101, oR b115, oU, oU, oU, oU, oU, oU, oU, oU] [(.int 3), (.ref b129), (.ref b129)] _
    refine XS.iconst X138.here hx rfl (hb hby at_116) ?_
    show own_S p e below T138 m 117 #[oI p0, oI p1, oI p2, oI p3, oI p4, oI dd0, oI dd1, oI dd2, oI dd3, oR b101, oR b115, oU, oU, oU, oU, oU, oU, oU, oU] [(.int 1), (.int 3), (.ref b129), (.ref b129)] _
    refine st141 _ ?_
    show own_S p e below T141 m 118 #[oI p0, oI p1, oI p2, oI p3, oI p4, oI dd0, oI dd1, oI dd2, oI dd3, oR b101, oR b115, oU, oU, oU, oU, oU, oU, oU, oU] [(.ref b129)] _
    refine XS.astore X141.here hx rfl (hb hby at_118) rfl rfl (l' := #[.val (.int p0), .val (.int p1), .val (.int p2), .val (.int p3), .val (.int p4), .val (.int dd0), .val (.int dd1), .val (.int dd2), .val (.int dd3), .val (.ref b101), .val (.ref b115), .val (.ref b129), .unset, .unset, .unset, .unset, .unset, .unset, .unset]) rfl ?_
    show own_S p e below T141 m 120 #[oI p0, oI p1, oI p2, oI p3, oI p4, oI dd0, oI dd1, oI dd2, oI dd3, oR b101, oR b115, oR b129, oU, oU, oU, oU, oU, oU, oU] [] _
    refine XS.iloadN X141.here hx rfl (hb hby at_120) rfl ?_
    show own_S p e below T141 m 121 #[oI p0, oI p1, oI p2, oI p3, oI p4, oI dd0, oI dd1, oI dd2, oI dd3, oR b101, oR b115, oR b129, oU, oU, oU, oU, oU, oU, oU] [(.int p2)] _
    refine XS.iconst X141.here hx rfl (hb hby at_121) ?_
    show own_S p e below T141 m 122 #[oI p0, oI p1, oI p2, oI p3, oI p4, oI dd0, oI dd1, oI dd2, oI dd3, oR b101, oR b115, oR b129, oU, oU, oU, oU, oU, oU, oU] [(.int 3), (.int p2)] _
    refine XS.iand X141.here hx rfl (hb hby at_122) rfl ?_
    show own_S p e below T141 m 123 #[oI p0, oI p1, oI p2, oI p3, oI p4, oI dd0, oI dd1, oI dd2, oI dd3, oR b101, oR b115, oR b129, oU, oU, oU, oU, oU, oU, oU] [(.int (p2 &&& (3 : Int32)))] _
    refine reI (hfr.symm : (p2 &&& (3 : Int32)) = fr) ?_
    show own_S p e below T141 m 123 #[oI p0, oI p1, oI p2, oI p3, oI p4, oI dd0, oI dd1, oI dd2, oI dd3, oR b101, oR b115, oR b129, oU, oU, oU, oU, oU, oU, oU] [(.int fr)] _
    refine XS.istore X141.here hx rfl (hb hby at_123) rfl (l' := #[.val (.int p0), .val (.int p1), .val (.int p2), .val (.int p3), .val (.int p4), .val (.int dd0), .val (.int dd1), .val (.int dd2), .val (.int dd3), .val (.ref b101), .val (.ref b115), .val (.ref b129), .val (.int fr), .unset, .unset, .unset, .unset, .unset, .unset]) rfl ?_
    show own_S p e below T141 m 125 #[oI p0, oI p1, oI p2, oI p3, oI p4, oI dd0, oI dd1, oI dd2, oI dd3, oR b101, oR b115, oR b129, oI fr, oU, oU, oU, oU, oU, oU] [] _
    refine XS.iloadN X141.here hx rfl (hb hby at_125) rfl ?_
    show own_S p e below T141 m 126 #[oI p0, oI p1, oI p2, oI p3, oI p4, oI dd0, oI dd1, oI dd2, oI dd3, oR b101, oR b115, oR b129, oI fr, oU, oU, oU, oU, oU, oU] [(.int p3)] _
    refine X141.ldcInt hx hown (mvT hZ (own_w hw 5 rfl)) (g := (mkF m 126 #[.val (.int p0), .val (.int p1), .val (.int p2), .val (.int p3), .val (.int p4), .val (.int dd0), .val (.int dd1), .val (.int dd2), .val (.int dd3), .val (.ref b101), .val (.ref b115), .val (.ref b129), .val (.int fr), .unset, .unset, .unset, .unset, .unset, .unset] [(.int p3)])) rfl (hb hby at_126) _ ?_
    show own_S p e below T141 m 128 #[oI p0, oI p1, oI p2, oI p3, oI p4, oI dd0, oI dd1, oI dd2, oI dd3, oR b101, oR b115, oR b129, oI fr, oU, oU, oU, oU, oU, oU] [(.int 2147483647), (.int p3)] _
    refine XS.iand X141.here hx rfl (hb hby at_128) rfl ?_
    show own_S p e below T141 m 129 #[oI p0, oI p1, oI p2, oI p3, oI p4, oI dd0, oI dd1, oI dd2, oI dd3, oR b101, oR b115, oR b129, oI fr, oU, oU, oU, oU, oU, oU] [(.int (p3 &&& (2147483647 : Int32)))] _
    refine XS.iconst X141.here hx rfl (hb hby at_129) ?_
    show own_S p e below T141 m 130 #[oI p0, oI p1, oI p2, oI p3, oI p4, oI dd0, oI dd1, oI dd2, oI dd3, oR b101, oR b115, oR b129, oI fr, oU, oU, oU, oU, oU, oU] [(.int 5), (.int (p3 &&& (2147483647 : Int32)))] _
    refine XS.iload X141.here hx rfl (hb hby at_130) rfl ?_
    show own_S p e below T141 m 132 #[oI p0, oI p1, oI p2, oI p3, oI p4, oI dd0, oI dd1, oI dd2, oI dd3, oR b101, oR b115, oR b129, oI fr, oU, oU, oU, oU, oU, oU] [(.int fr), (.int 5), (.int (p3 &&& (2147483647 : Int32)))] _
    refine XS.isub X141.here hx rfl (hb hby at_132) rfl ?_
    show own_S p e below T141 m 133 #[oI p0, oI p1, oI p2, oI p3, oI p4, oI dd0, oI dd1, oI dd2, oI dd3, oR b101, oR b115, oR b129, oI fr, oU, oU, oU, oU, oU, oU] [(.int ((5 : Int32) - fr)), (.int (p3 &&& (2147483647 : Int32)))] _
    refine iremM (g := (mkF m 133 #[.val (.int p0), .val (.int p1), .val (.int p2), .val (.int p3), .val (.int p4), .val (.int dd0), .val (.int dd1), .val (.int dd2), .val (.int dd3), .val (.ref b101), .val (.ref b115), .val (.ref b129), .val (.int fr), .unset, .unset, .unset, .unset, .unset, .unset] [(.int ((5 : Int32) - fr)), (.int (p3 &&& (2147483647 : Int32)))])) X141 hx rfl (hb hby at_133) rfl hnz ?_
    show own_S p e below T141 m 134 #[oI p0, oI p1, oI p2, oI p3, oI p4, oI dd0, oI dd1, oI dd2, oI dd3, oR b101, oR b115, oR b129, oI fr, oU, oU, oU, oU, oU, oU] [(.int ((p3 &&& (2147483647 : Int32)) % ((5 : Int32) - fr)))] _
    refine reI (hsz.symm : ((p3 &&& (2147483647 : Int32)) % ((5 : Int32) - fr)) = sz) ?_
    show own_S p e below T141 m 134 #[oI p0, oI p1, oI p2, oI p3, oI p4, oI dd0, oI dd1, oI dd2, oI dd3, oR b101, oR b115, oR b129, oI fr, oU, oU, oU, oU, oU, oU] [(.int sz)] _
    refine XS.istore X141.here hx rfl (hb hby at_134) rfl (l' := #[.val (.int p0), .val (.int p1), .val (.int p2), .val (.int p3), .val (.int p4), .val (.int dd0), .val (.int dd1), .val (.int dd2), .val (.int dd3), .val (.ref b101), .val (.ref b115), .val (.ref b129), .val (.int fr), .val (.int sz), .unset, .unset, .unset, .unset, .unset]) rfl ?_
    show own_S p e below T141 m 136 #[oI p0, oI p1, oI p2, oI p3, oI p4, oI dd0, oI dd1, oI dd2, oI dd3, oR b101, oR b115, oR b129, oI fr, oI sz, oU, oU, oU, oU, oU] [] _
    refine XS.iload X141.here hx rfl (hb hby at_136) rfl ?_
    show own_S p e below T141 m 138 #[oI p0, oI p1, oI p2, oI p3, oI p4, oI dd0, oI dd1, oI dd2, oI dd3, oR b101, oR b115, oR b129, oI fr, oI sz, oU, oU, oU, oU, oU] [(.int fr)] _
    refine XS.iload X141.here hx rfl (hb hby at_138) rfl ?_
    show own_S p e below T141 m 140 #[oI p0, oI p1, oI p2, oI p3, oI p4, oI dd0, oI dd1, oI dd2, oI dd3, oR b101, oR b115, oR b129, oI fr, oI sz, oU, oU, oU, oU, oU] [(.int sz), (.int fr)] _
    refine XS.iadd X141.here hx rfl (hb hby at_140) rfl ?_
    show own_S p e below T141 m 141 #[oI p0, oI p1, oI p2, oI p3, oI p4, oI dd0, oI dd1, oI dd2, oI dd3, oR b101, oR b115, oR b129, oI fr, oI sz, oU, oU, oU, oU, oU] [(.int (fr + sz))] _
    refine XS.istore X141.here hx rfl (hb hby at_141) rfl (l' := #[.val (.int p0), .val (.int p1), .val (.int p2), .val (.int p3), .val (.int p4), .val (.int dd0), .val (.int dd1), .val (.int dd2), .val (.int dd3), .val (.ref b101), .val (.ref b115), .val (.ref b129), .val (.int fr), .val (.int sz), .val (.int (fr + sz)), .unset, .unset, .unset, .unset]) rfl ?_
    show own_S p e below T141 m 143 #[oI p0, oI p1, oI p2, oI p3, oI p4, oI dd0, oI dd1, oI dd2, oI dd3, oR b101, oR b115, oR b129, oI fr, oI sz, oI (fr + sz), oU, oU, oU, oU] [] _
    refine st143 _ ?_
    show own_S p e below T143 m 146 #[oI p0, oI p1, oI p2, oI p3, oI p4, oI dd0, oI dd1, oI dd2, oI dd3, oR b101, oR b115, oR b129, oI fr, oI sz, oI (fr + sz), oU, oU, oU, oU] [(.ref b143)] _
    refine XS.dup X143.here hx rfl (hb hby at_146) rfl rfl ?_
    show own_S p e below T143 m 147 #[oI p0, oI p1, oI p2, oI p3, oI p4, oI dd0, oI dd1, oI dd2, oI dd3, oR b101, oR b115, oR b129, oI fr, oI sz, oI (fr + sz), oU, oU, oU, oU] [(.ref b143), (.ref b143)] _
    refine XS.aload X143.here hx rfl (hb hby at_147) rfl rfl ?_
    show own_S p e below T143 m 149 #[oI p0, oI p1, oI p2, oI p3, oI p4, oI dd0, oI dd1, oI dd2, oI dd3, oR b101, oR b115, oR b129, oI fr, oI sz, oI (fr + sz), oU, oU, oU, oU] [(.ref b101), (.ref b143), (.ref b143)] _
    refine XS.aload X143.here hx rfl (hb hby at_149) rfl rfl ?_
    show own_S p e below T143 m 151 #[oI p0, oI p1, oI p2, oI p3, oI p4, oI dd0, oI dd1, oI dd2, oI dd3, oR b101, oR b115, oR b129, oI fr, oI sz, oI (fr + sz), oU, oU, oU, oU] [(.ref b115), (.ref b101), (.ref b143), (.ref b143)] _
    refine XS.aload X143.here hx rfl (hb hby at_151) rfl rfl ?_
    show own_S p e below T143 m 153 #[oI p0, oI p1, oI p2, oI p3, oI p4, oI dd0, oI dd1, oI dd2, oI dd3, oR b101, oR b115, oR b129, oI fr, oI sz, oI (fr + sz), oU, oU, oU, oU] [(.ref b129), (.ref b115), (.ref b101), (.ref b143), (.ref b143)] _
    refine XS.iload X143.here hx rfl (hb hby at_153) rfl ?_
    show own_S p e below T143 m 155 #[oI p0, oI p1, oI p2, oI p3, oI p4, oI dd0, oI dd1, oI dd2, oI dd3, oR b101, oR b115, oR b129, oI fr, oI sz, oI (fr + sz), oU, oU, oU, oU] [(.int fr), (.ref b129), (.ref b115), (.ref b101), (.ref b143), (.ref b143)] _
    refine XS.iload X143.here hx rfl (hb hby at_155) rfl ?_
    show own_S p e below T143 m 157 #[oI p0, oI p1, oI p2, oI p3, oI p4, oI dd0, oI dd1, oI dd2, oI dd3, oR b101, oR b115, oR b129, oI fr, oI sz, oI (fr + sz), oU, oU, oU, oU] [(.int (fr + sz)), (.int fr), (.ref b129), (.ref b115), (.ref b101), (.ref b143), (.ref b143)] _
    refine st147.trans ?_
    show own_S p e below T147 m 160 #[oI p0, oI p1, oI p2, oI p3, oI p4, oI dd0, oI dd1, oI dd2, oI dd3, oR b101, oR b115, oR b129, oI fr, oI sz, oI (fr + sz), oU, oU, oU, oU] [(.ref b143)] _
    refine XS.astore X147.here hx rfl (hb hby at_160) rfl rfl (l' := #[.val (.int p0), .val (.int p1), .val (.int p2), .val (.int p3), .val (.int p4), .val (.int dd0), .val (.int dd1), .val (.int dd2), .val (.int dd3), .val (.ref b101), .val (.ref b115), .val (.ref b129), .val (.int fr), .val (.int sz), .val (.int (fr + sz)), .val (.ref b143), .unset, .unset, .unset]) rfl ?_
    show own_S p e below T147 m 162 #[oI p0, oI p1, oI p2, oI p3, oI p4, oI dd0, oI dd1, oI dd2, oI dd3, oR b101, oR b115, oR b129, oI fr, oI sz, oI (fr + sz), oR b143, oU, oU, oU] [] _
    refine XS.iload X147.here hx rfl (hb hby at_162) rfl ?_
    exact kt
  by_cases hs0 : sz = (0 : Int32)
  · skip
    obtain ⟨fs, hr, hrun, hended, hW, hsame⟩ := X147.leave (v := some (.int 1)) (fun h => by rw [Bd.returns] at h; cases h)
    refine ⟨_, _, pre0 _ (pre149 _ ?_), hrun, hended, _, _, rfl, ?_, ⟨_, rfl⟩, hW, hsame.mono (by decide) (by decide)⟩
    · show own_S p e below T147 m 164 #[oI p0, oI p1, oI p2, oI p3, oI p4, oI dd0, oI dd1, oI dd2, oI dd3, oR b101, oR b115, oR b129, oI fr, oI sz, oI (fr + sz), oR b143, oU, oU, oU] [(.int sz)] _
      refine XS.ifNo X147.here hx rfl (hb hby at_164) rfl ((if0 _ _).trans (teq (hs0 : sz = (0 : Int32))).2) ?_
      show own_S p e below T147 m 167 #[oI p0, oI p1, oI p2, oI p3, oI p4, oI dd0, oI dd1, oI dd2, oI dd3, oR b101, oR b115, oR b129, oI fr, oI sz, oI (fr + sz), oR b143, oU, oU, oU] [] _
      refine XS.iconst X147.here hx rfl (hb hby at_167) ?_
      show own_S p e below T147 m 168 #[oI p0, oI p1, oI p2, oI p3, oI p4, oI dd0, oI dd1, oI dd2, oI dd3, oR b101, oR b115, oR b129, oI fr, oI sz, oI (fr + sz), oR b143, oU, oU, oU] [(.int 1)] _
      exact retN X147 hx (t := .boolean) Bd.returns (by simp) (hb hby at_168) hr
    · show Qm0 Z p0 p1 p2 p3 p4 h0 n0 _ T147.heap _
      exact ⟨rfl, N147⟩
  · skip
    have hc := hcc hs0 p4 dd0 dd1 dd2 dd3
    obtain ⟨pi, hpi⟩ : ∃ z, z = (p4 &&& (2147483647 : Int32)) % sz := ⟨_, rfl⟩
    rw [← hpi] at hc
    obtain ⟨ix, hix⟩ : ∃ z, z = fr + pi := ⟨_, rfl⟩
    rw [← hix] at hc
    obtain ⟨key, hkey⟩ : ∃ z, z = own_pick ix dd0 dd1 dd2 dd3 := ⟨_, rfl⟩
    rw [← hkey] at hc
    have Fc150 := ((((((((((((Va113.ext E115).other W118 (Nat.ne_of_lt (Nat.lt_of_lt_of_le Va113.lt (Nat.le_of_eq g115.symm)))).other W121 (Nat.ne_of_lt (Nat.lt_of_lt_of_le Va113.lt (Nat.le_of_eq g115.symm)))).other W124 (Nat.ne_of_lt (Nat.lt_of_lt_of_le Va113.lt (Nat.le_of_eq g115.symm)))).other W127 (Nat.ne_of_lt (Nat.lt_of_lt_of_le Va113.lt (Nat.le_of_eq g115.symm)))).ext E129).other W132 (Nat.ne_of_lt (Nat.lt_of_lt_of_le (((((Va113.ext E115).other W118 (Nat.ne_of_lt (Nat.lt_of_lt_of_le Va113.lt (Nat.le_of_eq g115.symm)))).other W121 (Nat.ne_of_lt (Nat.lt_of_lt_of_le Va113.lt (Nat.le_of_eq g115.symm)))).other W124 (Nat.ne_of_lt (Nat.lt_of_lt_of_le Va113.lt (Nat.le_of_eq g115.symm)))).other W127 (Nat.ne_of_lt (Nat.lt_of_lt_of_le Va113.lt (Nat.le_of_eq g115.symm)))).lt (Nat.le_of_eq g129.symm)))).other W135 (Nat.ne_of_lt (Nat.lt_of_lt_of_le (((((Va113.ext E115).other W118 (Nat.ne_of_lt (Nat.lt_of_lt_of_le Va113.lt (Nat.le_of_eq g115.symm)))).other W121 (Nat.ne_of_lt (Nat.lt_of_lt_of_le Va113.lt (Nat.le_of_eq g115.symm)))).other W124 (Nat.ne_of_lt (Nat.lt_of_lt_of_le Va113.lt (Nat.le_of_eq g115.symm)))).other W127 (Nat.ne_of_lt (Nat.lt_of_lt_of_le Va113.lt (Nat.le_of_eq g115.symm)))).lt (Nat.le_of_eq g129.symm)))).other W138 (Nat.ne_of_lt (Nat.lt_of_lt_of_le (((((Va113.ext E115).other W118 (Nat.ne_of_lt (Nat.lt_of_lt_of_le Va113.lt (Nat.le_of_eq g115.symm)))).other W121 (Nat.ne_of_lt (Nat.lt_of_lt_of_le Va113.lt (Nat.le_of_eq g115.symm)))).other W124 (Nat.ne_of_lt (Nat.lt_of_lt_of_le Va113.lt (Nat.le_of_eq g115.symm)))).other W127 (Nat.ne_of_lt (Nat.lt_of_lt_of_le Va113.lt (Nat.le_of_eq g115.symm)))).lt (Nat.le_of_eq g129.symm)))).other W141 (Nat.ne_of_lt (Nat.lt_of_lt_of_le (((((Va113.ext E115).other W118 (Nat.ne_of_lt (Nat.lt_of_lt_of_le Va113.lt (Nat.le_of_eq g115.symm)))).other W121 (Nat.ne_of_lt (Nat.lt_of_lt_of_le Va113.lt (Nat.le_of_eq g115.symm)))).other W124 (Nat.ne_of_lt (Nat.lt_of_lt_of_le Va113.lt (Nat.le_of_eq g115.symm)))).other W127 (Nat.ne_of_lt (Nat.lt_of_lt_of_le Va113.lt (Nat.le_of_eq g115.symm)))).lt (Nat.le_of_eq g129.symm)))).ext E143).keep P147_0 (ninS (Nat.ne_of_lt (Nat.lt_of_lt_of_le ((((((((((Va113.ext E115).other W118 (Nat.ne_of_lt (Nat.lt_of_lt_of_le Va113.lt (Nat.le_of_eq g115.symm)))).other W121 (Nat.ne_of_lt (Nat.lt_of_lt_of_le Va113.lt (Nat.le_of_eq g115.symm)))).other W124 (Nat.ne_of_lt (Nat.lt_of_lt_of_le Va113.lt (Nat.le_of_eq g115.symm)))).other W127 (Nat.ne_of_lt (Nat.lt_of_lt_of_le Va113.lt (Nat.le_of_eq g115.symm)))).ext E129).other W132 (Nat.ne_of_lt (Nat.lt_of_lt_of_le (((((Va113.ext E115).other W118 (Nat.ne_of_lt (Nat.lt_of_lt_of_le Va113.lt (Nat.le_of_eq g115.symm)))).other W121 (Nat.ne_of_lt (Nat.lt_of_lt_of_le Va113.lt (Nat.le_of_eq g115.symm)))).other W124 (Nat.ne_of_lt (Nat.lt_of_lt_of_le Va113.lt (Nat.le_of_eq g115.symm)))).other W127 (Nat.ne_of_lt (Nat.lt_of_lt_of_le Va113.lt (Nat.le_of_eq g115.symm)))).lt (Nat.le_of_eq g129.symm)))).other W135 (Nat.ne_of_lt (Nat.lt_of_lt_of_le (((((Va113.ext E115).other W118 (Nat.ne_of_lt (Nat.lt_of_lt_of_le Va113.lt (Nat.le_of_eq g115.symm)))).other W121 (Nat.ne_of_lt (Nat.lt_of_lt_of_le Va113.lt (Nat.le_of_eq g115.symm)))).other W124 (Nat.ne_of_lt (Nat.lt_of_lt_of_le Va113.lt (Nat.le_of_eq g115.symm)))).other W127 (Nat.ne_of_lt (Nat.lt_of_lt_of_le Va113.lt (Nat.le_of_eq g115.symm)))).lt (Nat.le_of_eq g129.symm)))).other W138 (Nat.ne_of_lt (Nat.lt_of_lt_of_le (((((Va113.ext E115).other W118 (Nat.ne_of_lt (Nat.lt_of_lt_of_le Va113.lt (Nat.le_of_eq g115.symm)))).other W121 (Nat.ne_of_lt (Nat.lt_of_lt_of_le Va113.lt (Nat.le_of_eq g115.symm)))).other W124 (Nat.ne_of_lt (Nat.lt_of_lt_of_le Va113.lt (Nat.le_of_eq g115.symm)))).other W127 (Nat.ne_of_lt (Nat.lt_of_lt_of_le Va113.lt (Nat.le_of_eq g115.symm)))).lt (Nat.le_of_eq g129.symm)))).other W141 (Nat.ne_of_lt (Nat.lt_of_lt_of_le (((((Va113.ext E115).other W118 (Nat.ne_of_lt (Nat.lt_of_lt_of_le Va113.lt (Nat.le_of_eq g115.symm)))).other W121 (Nat.ne_of_lt (Nat.lt_of_lt_of_le Va113.lt (Nat.le_of_eq g115.symm)))).other W124 (Nat.ne_of_lt (Nat.lt_of_lt_of_le Va113.lt (Nat.le_of_eq g115.symm)))).other W127 (Nat.ne_of_lt (Nat.lt_of_lt_of_le Va113.lt (Nat.le_of_eq g115.symm)))).lt (Nat.le_of_eq g129.symm)))).lt (Nat.le_of_eq g143.symm))) nin0))
    obtain ⟨cl151, Ar151, qk151, Sz151, Nz151, Hh151, Gg151⟩ := id Fc150
    have hin151 : ¬ (ix < 0 ∨ cl151.slots.size ≤ (ix).toNatClampNeg) := inb_of Sz151 (own_HCf hc).2.2.2.2.2.2
    have hat151 : cl151.slots[(ix).toNatClampNeg]? = some (.int key) := Has.at Hh151 hin151 (own_HCat hc)
    obtain ⟨cq152, kq152, q152a, q152b, q152c⟩ := isOf hZ rfl P147_1
    obtain ⟨_, _, ⟨T152, L152, k152, n152⟩, -, X152, ⟨Lc152, hQ152, l152, y152, z152⟩, st152⟩ := X147.virtualBack hx (y := (⟨"com/example/buurt/buurt/model/CrossTermFrequencies", "doc", "(I)I"⟩ : MethodName)) (z := (⟨"com/example/buurt/buurt/model/CrossTermFrequencies", "doc", "(I)I"⟩ : MethodName)) hown (mvT hZ (own_w hw 29 rfl)) (mvT hZ (own_w hw 30 rfl)) (notFace_of_selects (args := #[]) (mvT hZ (own_w hw 32 rfl))) (mvT hZ (own_w hw 32 rfl)) (mvT hZ (own_w hw 31 rfl)) (by decide) (backOf (W := 0) (rmm3 l Z a0 hw [] b143 pi b101 fr (fr + sz) key k101 dd0 dd1 dd2 dd3 ix pi T147.heap n0 ZZ148 P147_2 P147_3 Fc150 hc) hZ (own_w hw 33 rfl) (own_w hw 8 rfl) (by decide) (by decide)) q152a q152c (g := (mkF m 193 #[.val (.int p0), .val (.int p1), .val (.int p2), .val (.int p3), .val (.int p4), .val (.int dd0), .val (.int dd1), .val (.int dd2), .val (.int dd3), .val (.ref b101), .val (.ref b115), .val (.ref b129), .val (.int fr), .val (.int sz), .val (.int (fr + sz)), .val (.ref b143), .val (.int pi), .val (.int key), .unset] [(.int pi), (.ref b143)])) rfl (by rw [hml]; rfl) (Steps.refl _) (argsL := [(.int pi)]) (rest := []) (lenOf pd3 rfl) rfl (by show 2 * 0 + _ ≤ _; exact Nat.le_of_eq rfl) (hb hby at_193) (fun _ _ => ⟨rfl, rfl, (by decide : 4 + 0 ≤ _), (by decide : 19 + 0 ≤ _)⟩)
    dsimp only [Pt.U, Pt.locs, Pt.cells, Pt.slots] at X152 l152 y152 z152 st152 hQ152
    subst l152 y152 z152
    obtain ⟨rfl, Nq152, P152_0⟩ := hQ152
    have N152 := Fr.app N147 Nq152
    obtain ⟨cq153, kq153, q153a, q153b, q153c⟩ := isOf hZ P152_0 P147_1
    obtain ⟨_, _, ⟨T153, L153, k153, n153⟩, -, X153, ⟨Lc153, hQ153, l153, y153, z153⟩, st153⟩ := X152.virtualBack hx (y := (⟨"com/example/buurt/buurt/model/CrossTermFrequencies", "indexOf", "(I)I"⟩ : MethodName)) (z := (⟨"com/example/buurt/buurt/model/CrossTermFrequencies", "indexOf", "(I)I"⟩ : MethodName)) hown (mvT hZ (own_w hw 34 rfl)) (mvT hZ (own_w hw 35 rfl)) (notFace_of_selects (args := #[]) (mvT hZ (own_w hw 37 rfl))) (mvT hZ (own_w hw 37 rfl)) (mvT hZ (own_w hw 36 rfl)) (by decide) (backOf (W := 0) (rmm4 l Z a0 hw [] b143 key b101 fr (fr + sz) k101 dd0 dd1 dd2 dd3 ix pi T147.heap n0 ZZ148 P147_2 P147_3 P147_4 Fc150 o01 o02 o03 o12 o13 o23 hc) hZ (own_w hw 38 rfl) (own_w hw 8 rfl) (by decide) (by decide)) q153a q153c (g := (mkF m 211 #[.val (.int p0), .val (.int p1), .val (.int p2), .val (.int p3), .val (.int p4), .val (.int dd0), .val (.int dd1), .val (.int dd2), .val (.int dd3), .val (.ref b101), .val (.ref b115), .val (.ref b129), .val (.int fr), .val (.int sz), .val (.int (fr + sz)), .val (.ref b143), .val (.int pi), .val (.int key), .val (.int key)] [(.int key), (.ref b143)])) rfl (by rw [hml]; rfl) (Steps.refl _) (argsL := [(.int key)]) (rest := []) (lenOf pd3 rfl) rfl (by show 2 * 0 + _ ≤ _; exact Nat.le_of_eq rfl) (hb hby at_211) (fun _ _ => ⟨rfl, P152_0, (by decide : 4 + 0 ≤ _), (by decide : 19 + 0 ≤ _)⟩)
    dsimp only [Pt.U, Pt.locs, Pt.cells, Pt.slots] at X153 l153 y153 z153 st153 hQ153
    subst l153 y153 z153
    obtain ⟨rfl, Nq153, P153_0⟩ := hQ153
    have N153 := Fr.app N152 Nq153
    obtain ⟨fs, hr, hrun, hended, hW, hsame⟩ := X153.leave (v := some (.int 1)) (fun h => by rw [Bd.returns] at h; cases h)
    refine ⟨_, _, pre0 _ (pre149 _ ?_), hrun, hended, _, _, rfl, ?_, ⟨_, rfl⟩, hW, hsame.mono (by decide) (by decide)⟩
    · show own_S p e below T147 m 164 #[oI p0, oI p1, oI p2, oI p3, oI p4, oI dd0, oI dd1, oI dd2, oI dd3, oR b101, oR b115, oR b129, oI fr, oI sz, oI (fr + sz), oR b143, oU, oU, oU] [(.int sz)] _
      refine XS.ifYes X147.here hx rfl (pc0 := 164) (pc' := 169) rfl (hb hby at_164) rfl ((if0 _ _).trans (feq (hs0 : ¬ (sz = (0 : Int32)))).2) (by decide) (by decide) ?_
      show own_S p e below T147 m 169 #[oI p0, oI p1, oI p2, oI p3, oI p4, oI dd0, oI dd1, oI dd2, oI dd3, oR b101, oR b115, oR b129, oI fr, oI sz, oI (fr + sz), oR b143, oU, oU, oU] [] _
      refine XS.iload X147.here hx rfl (hb hby at_169) rfl ?_
      show own_S p e below T147 m 171 #[oI p0, oI p1, oI p2, oI p3, oI p4, oI dd0, oI dd1, oI dd2, oI dd3, oR b101, oR b115, oR b129, oI fr, oI sz, oI (fr + sz), oR b143, oU, oU, oU] [(.int p4)] _
      refine X147.ldcInt hx hown (mvT hZ (own_w hw 5 rfl)) (g := (mkF m 171 #[.val (.int p0), .val (.int p1), .val (.int p2), .val (.int p3), .val (.int p4), .val (.int dd0), .val (.int dd1), .val (.int dd2), .val (.int dd3), .val (.ref b101), .val (.ref b115), .val (.ref b129), .val (.int fr), .val (.int sz), .val (.int (fr + sz)), .val (.ref b143), .unset, .unset, .unset] [(.int p4)])) rfl (hb hby at_171) _ ?_
      show own_S p e below T147 m 173 #[oI p0, oI p1, oI p2, oI p3, oI p4, oI dd0, oI dd1, oI dd2, oI dd3, oR b101, oR b115, oR b129, oI fr, oI sz, oI (fr + sz), oR b143, oU, oU, oU] [(.int 2147483647), (.int p4)] _
      refine XS.iand X147.here hx rfl (hb hby at_173) rfl ?_
      show own_S p e below T147 m 174 #[oI p0, oI p1, oI p2, oI p3, oI p4, oI dd0, oI dd1, oI dd2, oI dd3, oR b101, oR b115, oR b129, oI fr, oI sz, oI (fr + sz), oR b143, oU, oU, oU] [(.int (p4 &&& (2147483647 : Int32)))] _
      refine XS.iload X147.here hx rfl (hb hby at_174) rfl ?_
      show own_S p e below T147 m 176 #[oI p0, oI p1, oI p2, oI p3, oI p4, oI dd0, oI dd1, oI dd2, oI dd3, oR b101, oR b115, oR b129, oI fr, oI sz, oI (fr + sz), oR b143, oU, oU, oU] [(.int sz), (.int (p4 &&& (2147483647 : Int32)))] _
      refine iremM (g := (mkF m 176 #[.val (.int p0), .val (.int p1), .val (.int p2), .val (.int p3), .val (.int p4), .val (.int dd0), .val (.int dd1), .val (.int dd2), .val (.int dd3), .val (.ref b101), .val (.ref b115), .val (.ref b129), .val (.int fr), .val (.int sz), .val (.int (fr + sz)), .val (.ref b143), .unset, .unset, .unset] [(.int sz), (.int (p4 &&& (2147483647 : Int32)))])) X147 hx rfl (hb hby at_176) rfl hs0 ?_
      show own_S p e below T147 m 177 #[oI p0, oI p1, oI p2, oI p3, oI p4, oI dd0, oI dd1, oI dd2, oI dd3, oR b101, oR b115, oR b129, oI fr, oI sz, oI (fr + sz), oR b143, oU, oU, oU] [(.int ((p4 &&& (2147483647 : Int32)) % sz))] _
      refine reI (hpi.symm : ((p4 &&& (2147483647 : Int32)) % sz) = pi) ?_
      show own_S p e below T147 m 177 #[oI p0, oI p1, oI p2, oI p3, oI p4, oI dd0, oI dd1, oI dd2, oI dd3, oR b101, oR b115, oR b129, oI fr, oI sz, oI (fr + sz), oR b143, oU, oU, oU] [(.int pi)] _
      refine XS.istore X147.here hx rfl (hb hby at_177) rfl (l' := #[.val (.int p0), .val (.int p1), .val (.int p2), .val (.int p3), .val (.int p4), .val (.int dd0), .val (.int dd1), .val (.int dd2), .val (.int dd3), .val (.ref b101), .val (.ref b115), .val (.ref b129), .val (.int fr), .val (.int sz), .val (.int (fr + sz)), .val (.ref b143), .val (.int pi), .unset, .unset]) rfl ?_
      show own_S p e below T147 m 179 #[oI p0, oI p1, oI p2, oI p3, oI p4, oI dd0, oI dd1, oI dd2, oI dd3, oR b101, oR b115, oR b129, oI fr, oI sz, oI (fr + sz), oR b143, oI pi, oU, oU] [] _
      refine XS.aload X147.here hx rfl (hb hby at_179) rfl rfl ?_
      show own_S p e below T147 m 181 #[oI p0, oI p1, oI p2, oI p3, oI p4, oI dd0, oI dd1, oI dd2, oI dd3, oR b101, oR b115, oR b129, oI fr, oI sz, oI (fr + sz), oR b143, oI pi, oU, oU] [(.ref b101)] _
      refine XS.iload X147.here hx rfl (hb hby at_181) rfl ?_
      show own_S p e below T147 m 183 #[oI p0, oI p1, oI p2, oI p3, oI p4, oI dd0, oI dd1, oI dd2, oI dd3, oR b101, oR b115, oR b129, oI fr, oI sz, oI (fr + sz), oR b143, oI pi, oU, oU] [(.int fr), (.ref b101)] _
      refine XS.iload X147.here hx rfl (hb hby at_183) rfl ?_
      show own_S p e below T147 m 185 #[oI p0, oI p1, oI p2, oI p3, oI p4, oI dd0, oI dd1, oI dd2, oI dd3, oR b101, oR b115, oR b129, oI fr, oI sz, oI (fr + sz), oR b143, oI pi, oU, oU] [(.int pi), (.int fr), (.ref b101)] _
      refine XS.iadd X147.here hx rfl (hb hby at_185) rfl ?_
      show own_S p e below T147 m 186 #[oI p0, oI p1, oI p2, oI p3, oI p4, oI dd0, oI dd1, oI dd2, oI dd3, oR b101, oR b115, oR b129, oI fr, oI sz, oI (fr + sz), oR b143, oI pi, oU, oU] [(.int (fr + pi)), (.ref b101)] _
      refine reI (hix.symm : (fr + pi) = ix) ?_
      show own_S p e below T147 m 186 #[oI p0, oI p1, oI p2, oI p3, oI p4, oI dd0, oI dd1, oI dd2, oI dd3, oR b101, oR b115, oR b129, oI fr, oI sz, oI (fr + sz), oR b143, oI pi, oU, oU] [(.int ix), (.ref b101)] _
      refine X147.iaload hx (j := ix) (v := (.int key)) Ar151.1 (State.isArrayOf_alike hZ.alike Ar151.2.1) Ar151.2.2 hin151 hat151 (g := (mkF m 186 #[.val (.int p0), .val (.int p1), .val (.int p2), .val (.int p3), .val (.int p4), .val (.int dd0), .val (.int dd1), .val (.int dd2), .val (.int dd3), .val (.ref b101), .val (.ref b115), .val (.ref b129), .val (.int fr), .val (.int sz), .val (.int (fr + sz)), .val (.ref b143), .val (.int pi), .unset, .unset] [(.int ix), (.ref b101)])) rfl rfl (hb hby at_186) _ ?_
      show own_S p e below T147 m 187 #[oI p0, oI p1, oI p2, oI p3, oI p4, oI dd0, oI dd1, oI dd2, oI dd3, oR b101, oR b115, oR b129, oI fr, oI sz, oI (fr + sz), oR b143, oI pi, oU, oU] [(.int key)] _
      refine XS.istore X147.here hx rfl (hb hby at_187) rfl (l' := #[.val (.int p0), .val (.int p1), .val (.int p2), .val (.int p3), .val (.int p4), .val (.int dd0), .val (.int dd1), .val (.int dd2), .val (.int dd3), .val (.ref b101), .val (.ref b115), .val (.ref b129), .val (.int fr), .val (.int sz), .val (.int (fr + sz)), .val (.ref b143), .val (.int pi), .val (.int key), .unset]) rfl ?_
      show own_S p e below T147 m 189 #[oI p0, oI p1, oI p2, oI p3, oI p4, oI dd0, oI dd1, oI dd2, oI dd3, oR b101, oR b115, oR b129, oI fr, oI sz, oI (fr + sz), oR b143, oI pi, oI key, oU] [] _
      refine XS.aload X147.here hx rfl (hb hby at_189) rfl rfl ?_
      show own_S p e below T147 m 191 #[oI p0, oI p1, oI p2, oI p3, oI p4, oI dd0, oI dd1, oI dd2, oI dd3, oR b101, oR b115, oR b129, oI fr, oI sz, oI (fr + sz), oR b143, oI pi, oI key, oU] [(.ref b143)] _
      refine XS.iload X147.here hx rfl (hb hby at_191) rfl ?_
      show own_S p e below T147 m 193 #[oI p0, oI p1, oI p2, oI p3, oI p4, oI dd0, oI dd1, oI dd2, oI dd3, oR b101, oR b115, oR b129, oI fr, oI sz, oI (fr + sz), oR b143, oI pi, oI key, oU] [(.int pi), (.ref b143)] _
      refine st152.trans ?_
      show own_S p e below T152 m 196 #[oI p0, oI p1, oI p2, oI p3, oI p4, oI dd0, oI dd1, oI dd2, oI dd3, oR b101, oR b115, oR b129, oI fr, oI sz, oI (fr + sz), oR b143, oI pi, oI key, oU] [(.int key)] _
      refine XS.istore X152.here hx rfl (hb hby at_196) rfl (l' := #[.val (.int p0), .val (.int p1), .val (.int p2), .val (.int p3), .val (.int p4), .val (.int dd0), .val (.int dd1), .val (.int dd2), .val (.int dd3), .val (.ref b101), .val (.ref b115), .val (.ref b129), .val (.int fr), .val (.int sz), .val (.int (fr + sz)), .val (.ref b143), .val (.int pi), .val (.int key), .val (.int key)]) rfl ?_
      show own_S p e below T152 m 198 #[oI p0, oI p1, oI p2, oI p3, oI p4, oI dd0, oI dd1, oI dd2, oI dd3, oR b101, oR b115, oR b129, oI fr, oI sz, oI (fr + sz), oR b143, oI pi, oI key, oI key] [] _
      refine XS.iload X152.here hx rfl (hb hby at_198) rfl ?_
      show own_S p e below T152 m 200 #[oI p0, oI p1, oI p2, oI p3, oI p4, oI dd0, oI dd1, oI dd2, oI dd3, oR b101, oR b115, oR b129, oI fr, oI sz, oI (fr + sz), oR b143, oI pi, oI key, oI key] [(.int key)] _
      refine XS.iload X152.here hx rfl (hb hby at_200) rfl ?_
      show own_S p e below T152 m 202 #[oI p0, oI p1, oI p2, oI p3, oI p4, oI dd0, oI dd1, oI dd2, oI dd3, oR b101, oR b115, oR b129, oI fr, oI sz, oI (fr + sz), oR b143, oI pi, oI key, oI key] [(.int key), (.int key)] _
      refine XS.icmpYes X152.here hx rfl (pc0 := 202) (pc' := 207) rfl (hb hby at_202) rfl (teq (rfl : key = key)).1 (by decide) (by decide) ?_
      show own_S p e below T152 m 207 #[oI p0, oI p1, oI p2, oI p3, oI p4, oI dd0, oI dd1, oI dd2, oI dd3, oR b101, oR b115, oR b129, oI fr, oI sz, oI (fr + sz), oR b143, oI pi, oI key, oI key] [] _
      refine XS.aload X152.here hx rfl (hb hby at_207) rfl rfl ?_
      show own_S p e below T152 m 209 #[oI p0, oI p1, oI p2, oI p3, oI p4, oI dd0, oI dd1, oI dd2, oI dd3, oR b101, oR b115, oR b129, oI fr, oI sz, oI (fr + sz), oR b143, oI pi, oI key, oI key] [(.ref b143)] _
      refine XS.iload X152.here hx rfl (hb hby at_209) rfl ?_
      show own_S p e below T152 m 211 #[oI p0, oI p1, oI p2, oI p3, oI p4, oI dd0, oI dd1, oI dd2, oI dd3, oR b101, oR b115, oR b129, oI fr, oI sz, oI (fr + sz), oR b143, oI pi, oI key, oI key] [(.int key), (.ref b143)] _
      refine st153.trans ?_
      show own_S p e below T153 m 214 #[oI p0, oI p1, oI p2, oI p3, oI p4, oI dd0, oI dd1, oI dd2, oI dd3, oR b101, oR b115, oR b129, oI fr, oI sz, oI (fr + sz), oR b143, oI pi, oI key, oI key] [(.int pi)] _
      refine XS.iload X153.here hx rfl (hb hby at_214) rfl ?_
      show own_S p e below T153 m 216 #[oI p0, oI p1, oI p2, oI p3, oI p4, oI dd0, oI dd1, oI dd2, oI dd3, oR b101, oR b115, oR b129, oI fr, oI sz, oI (fr + sz), oR b143, oI pi, oI key, oI key] [(.int pi), (.int pi)] _
      refine XS.icmpNo X153.here hx rfl (hb hby at_216) rfl (teq (rfl : pi = pi)).2 ?_
      show own_S p e below T153 m 219 #[oI p0, oI p1, oI p2, oI p3, oI p4, oI dd0, oI dd1, oI dd2, oI dd3, oR b101, oR b115, oR b129, oI fr, oI sz, oI (fr + sz), oR b143, oI pi, oI key, oI key] [] _
      refine XS.iconst X153.here hx rfl (hb hby at_219) ?_
      show own_S p e below T153 m 220 #[oI p0, oI p1, oI p2, oI p3, oI p4, oI dd0, oI dd1, oI dd2, oI dd3, oR b101, oR b115, oR b129, oI fr, oI sz, oI (fr + sz), oR b143, oI pi, oI key, oI key] [(.int 1)] _
      refine XS.goto X153.here hx rfl (pc0 := 220) (pc' := 224) rfl (hb hby at_220) (by decide) (by decide) ?_
      show own_S p e below T153 m 224 #[oI p0, oI p1, oI p2, oI p3, oI p4, oI dd0, oI dd1, oI dd2, oI dd3, oR b101, oR b115, oR b129, oI fr, oI sz, oI (fr + sz), oR b143, oI pi, oI key, oI key] [(.int 1)] _
      exact retN X153 hx (t := .boolean) Bd.returns (by simp) (hb hby at_224) hr
    · show Qm0 Z p0 p1 p2 p3 p4 h0 n0 _ T153.heap _
      rw [P153_0]
      exact ⟨rfl, N153⟩
set_option maxRecDepth 65536 in
set_option maxHeartbeats 40000000 in
theorem comes_1 {Post : Tables → Env → Array Value → State → Outcome → State → Prop} (hpost : ∀ tb e args s v u, (limb_1_1.after args s (.returned v) u = true ∧ limb_1_2.after args s (.returned v) u = true ∧ True) → FrameEnd s (.returned v) u (Jvm.fieldLocs frame_1_writes args s ++ Jvm.arrayLocs frame_1_arrays args s ++ Jvm.staticLocs frame_1_statics s) 16 128 → Post tb e args s (.returned v) u) :
    ArmFor flags0 classFile x code maxLocals ret World_1 tables_1 room_1 Calls_1 rest_1 Pre_1 Post := by
  intro l hfl _ _ p e ha hc hk s m args below hf hA hF happ hP
  obtain ⟨hcalls, hrest, hpre⟩ := hP
  obtain ⟨-, -, -, hnamed, -, -, -, hat⟩ := (Spec.applies_iff hf).mp happ
  obtain ⟨hg, hn⟩ := and_e (Cond.before_iff.mp (show (Jvm.Cond.and given_1 narrow_1).before args s = true from hpre))
  obtain ⟨hcount, hg0⟩ := and_e hg
  obtain ⟨hv0, hg1⟩ := and_e hg0
  obtain ⟨hv1, hg2⟩ := and_e hg1
  obtain ⟨hv2, hg3⟩ := and_e hg2
  obtain ⟨hv3, hg4⟩ := and_e hg3
  obtain ⟨w0, w1, w2, w3, w4, rfl⟩ : ∃ w0 w1 w2 w3 w4 : Value, args = #[w0, w1, w2, w3, w4] := by
    have hs : args.size = 5 := by simpa [Cond.value, given_1] using hcount
    obtain ⟨L⟩ := args
    match L, hs with
    | [w0, w1, w2, w3, w4], _ => exact ⟨w0, w1, w2, w3, w4, rfl⟩
  have hw := fun d (hd : d ∈ tables_1) => atoms_spec (ws := Jvm.Cond.code x code maxLocals ret :: tables_1) hat d (List.mem_cons_of_mem _ hd)
  have hfit : Fit s := fun {y c} hc i hi => by
    obtain ⟨ha, rfl⟩ := Array.getElem?_eq_some_iff.mp hc
    have q := List.all_eq_true.mp ((Array.all_eq_true_iff_forall_mem.mp hF) _ (Array.getElem_mem ha)) i (List.mem_range.mpr hi)
    simpa [Array.getElem?_eq_getElem hi] using q
  obtain ⟨i0, ei0⟩ := is_v hv0
  obtain rfl : w0 = (.int i0) := Option.some.inj ei0
  obtain ⟨i1, ei1⟩ := is_v hv1
  obtain rfl : w1 = (.int i1) := Option.some.inj ei1
  obtain ⟨i2, ei2⟩ := is_v hv2
  obtain rfl : w2 = (.int i2) := Option.some.inj ei2
  obtain ⟨i3, ei3⟩ := is_v hv3
  obtain rfl : w3 = (.int i3) := Option.some.inj ei3
  obtain ⟨i4, ei4⟩ := is_v hg4
  obtain rfl : w4 = (.int i4) := Option.some.inj ei4
  obtain ⟨n, o, h1, h2, h3, _, L, rfl, ⟨rfl, N⟩, hq⟩ := rmm0 l s _ hw tables_1 i0 i1 i2 i3 i4 s.heap s.heap.size (Nat.le_refl _)  p e ha hc hk s m _ below hf ((Spec.applies_iff_loose hf).mp happ).1 ⟨rfl, State.Warmed39.refl s, rfl⟩ trivial
  refine ⟨n, _, h1, h2, h3, hpost _ _ _ _ _ _ ⟨Cond.after_iff.mpr rfl, Cond.after_iff.mpr (eq_i res_at (Term.int_eval (1)) rfl), trivial⟩ ⟨hq.1, hq.2.1, (hq.2.2.sift fun y hy => Or.inr (N y hy)).mono (by decide) (by decide)⟩⟩
theorem main_1_1 : Claimed_1_1 := comes_1 fun _ _ _ _ _ _ h hF => ⟨h.1, hF⟩
theorem main_1_2 : Claimed_1_2 := comes_1 fun _ _ _ _ _ _ h hF => ⟨h.2.1, hF⟩
end Jvm.Pilot.@@N@@
namespace Jvm.Pilot.@@N@@
open Jvm Jvm.ClassFile Sem Op Lib Jvm.Free Jvm.Stand Jvm.Pilot.@@N@@.Jvm.D
/-! MADE BY PROGRAM (witnessworld.py) out of the Statement's table words and the real class files: 12 classes; the members and pool entries that the words name. The judged class is class 1, her method 1. -/
namespace start1
open Jvm.ClassFile
def u (s : String) : CpInfo := .utf8 (stringToUtf16 s)
/-- a pool by its gaps: so many unusable entries, then the entry; so many at the end -/
def gap : Nat → List CpInfo → List CpInfo
  | 0, r => r
  | n + 1, r => .unusable :: gap n r
def poolList (es : List (Nat × CpInfo)) (last : Nat) : List CpInfo := es.foldr (fun e r => gap e.1 (e.2 :: r)) (gap last [])
def pool (es : List (Nat × CpInfo)) (last : Nat) : Array CpInfo := ⟨poolList es last⟩
def fileOf (pool : Array CpInfo) (this : Nat) (attrs : Array Attribute := #[]) (ms : Array MethodInfo := #[]) (fl : Nat := 33) (sup : Nat := 0) (ifs : Array Nat := #[]) (fds : Array FieldInfo := #[]) : ClassFile where
  minorVersion := 0
  majorVersion := 65
  constantPool := pool
  accessFlags := fl
  thisClass := this
  superClass := sup
  interfaces := ifs
  fields := fds
  methods := ms
  attributes := attrs
def plain (name : String) (sup : Option ClassId) : Class where
  name := name
  kind := .ordinary
  loader := none
  accessFlags := 33
  super := sup
  interfaces := #[]
  cf := none
  fields := #[]
  methods := #[]
  instanceTypes := #[]
  staticTypes := #[]
  resolved := #[]
  callSites := []
  init := .initialized
  statics := none
  mirror := none

def pool0 : Array CpInfo := pool [(5, u "<init>"), (0, u "()V"), (1, .class_ 10), (1, u "java/lang/Object")] 113

def k0c0 : Code := { maxStack := 0, maxLocals := 1, code := object_method_1_code, exceptionTable := #[], attributes := #[] }
def k0m0 : Method := { name := "<init>", desc := "()V", sig := { parameters := [], returnType := none }, accessFlags := 1, code := some k0c0 }
/-- java/lang/Object -/
def k0 : Class := { plain "java/lang/Object" none with
  accessFlags := 33
  interfaces := #[]
  cf := some (fileOf pool0 8 #[] #[{ accessFlags := 1, nameIndex := 5, descriptorIndex := 6, attributes := #[] }] 33 0 #[] #[])
  fields := #[]
  methods := #[k0m0]
  instanceTypes := #[]
  staticTypes := #[]
  resolved := Array.replicate 124 none
  statics := none }

def pool1 : Array CpInfo := pool [(2, .class_ 4), (1, u "java/lang/Object"), (0, u "<init>"), (0, u "()V"), (0, .double 4611686018427387904), (1, .double 4613937818241073152), (1, .double 4616189618054758400), (1, .integer 2147483647), (0, .class_ 15), (0, u "com/example/buurt/buurt/model/CrossTermFrequencies"), (0, .methodref 14 17), (0, .nameAndType 5 18), (0, u "([I[D[III)V"), (0, .methodref 14 20), (0, .nameAndType 21 22), (0, u "doc"), (0, u "(I)I"), (0, .methodref 14 24), (0, .nameAndType 25 22), (0, u "indexOf"), (0, .class_ 27), (0, u "com/example/buurt/buurt/model/CrossTermFrequenciesDocPinLaw"), (2, u "law"), (0, u "(IIIII)Z")] 7

def k1m0 : Method := { name := "<init>", desc := "()V", sig := { parameters := [], returnType := none }, accessFlags := 1, code := none }
def k1c1 : Code := { maxStack := 7, maxLocals := 19, code := code, exceptionTable := #[], attributes := #[] }
def k1m1 : Method := { name := "law", desc := "(IIIII)Z", sig := { parameters := [.int, .int, .int, .int, .int], returnType := some .boolean }, accessFlags := 9, code := some k1c1 }
/-- com/example/buurt/buurt/model/CrossTermFrequenciesDocPinLaw -/
def k1 : Class := { plain "com/example/buurt/buurt/model/CrossTermFrequenciesDocPinLaw" (some 0) with
  accessFlags := 49
  interfaces := #[]
  cf := some (fileOf pool1 26 #[] #[{ accessFlags := 1, nameIndex := 5, descriptorIndex := 6, attributes := #[] }, { accessFlags := 9, nameIndex := 30, descriptorIndex := 31, attributes := #[] }] 49 2 #[] #[])
  fields := #[]
  methods := #[k1m0, k1m1]
  instanceTypes := #[]
  staticTypes := #[]
  resolved := Array.replicate 39 none
  statics := none }

def pool2 : Array CpInfo := pool [(1, .methodref 2 3), (0, .class_ 4), (0, .nameAndType 5 6), (0, u "java/lang/Object"), (0, u "<init>"), (0, u "()V"), (0, .fieldref 8 9), (0, .class_ 10), (0, .nameAndType 11 12), (0, u "com/example/buurt/buurt/model/CrossTermFrequencies"), (0, u "docs"), (0, u "[I"), (0, .fieldref 8 14), (0, .nameAndType 15 16), (0, u "tfs"), (0, u "[D"), (0, .fieldref 8 18), (0, .nameAndType 19 12), (0, u "occurs"), (0, .fieldref 8 21), (0, .nameAndType 22 23), (0, u "from"), (0, u "I"), (0, .fieldref 8 25), (0, .nameAndType 26 23), (0, u "to"), (0, .fieldref 8 28), (0, .nameAndType 29 30), (0, u "documentFrequency"), (0, u "D"), (0, .fieldref 8 32), (0, .nameAndType 33 30), (0, u "collectionFrequency"), (0, .methodref 35 36), (0, .class_ 37), (0, .nameAndType 38 39), (0, u "java/util/Arrays"), (0, u "binarySearch"), (0, u "([IIII)I"), (0, u "([I[D[III)V"), (7, u "doc"), (0, u "(I)I"), (3, u "indexOf")] 3

def k2c0 : Code := { maxStack := 6, maxLocals := 11, code := prog_27_method_1_code, exceptionTable := #[], attributes := #[] }
def k2m0 : Method := { name := "<init>", desc := "([I[D[III)V", sig := { parameters := [(.array .int), (.array .double), (.array .int), .int, .int], returnType := none }, accessFlags := 0, code := some k2c0 }
def k2c1 : Code := { maxStack := 3, maxLocals := 2, code := prog_27_method_3_code, exceptionTable := #[], attributes := #[] }
def k2m1 : Method := { name := "doc", desc := "(I)I", sig := { parameters := [.int], returnType := some .int }, accessFlags := 0, code := some k2c1 }
def k2c2 : Code := { maxStack := 4, maxLocals := 3, code := prog_27_method_6_code, exceptionTable := #[], attributes := #[] }
def k2m2 : Method := { name := "indexOf", desc := "(I)I", sig := { parameters := [.int], returnType := some .int }, accessFlags := 0, code := some k2c2 }
/-- com/example/buurt/buurt/model/CrossTermFrequencies -/
def k2 : Class := { plain "com/example/buurt/buurt/model/CrossTermFrequencies" (some 0) with
  accessFlags := 48
  interfaces := #[]
  cf := some (fileOf pool2 8 #[] #[{ accessFlags := 0, nameIndex := 5, descriptorIndex := 40, attributes := #[] }, { accessFlags := 0, nameIndex := 48, descriptorIndex := 49, attributes := #[] }, { accessFlags := 0, nameIndex := 53, descriptorIndex := 49, attributes := #[] }] 48 2 #[] #[{ accessFlags := 18, nameIndex := 11, descriptorIndex := 12, attributes := #[] }, { accessFlags := 18, nameIndex := 15, descriptorIndex := 16, attributes := #[] }, { accessFlags := 18, nameIndex := 19, descriptorIndex := 12, attributes := #[] }, { accessFlags := 18, nameIndex := 22, descriptorIndex := 23, attributes := #[] }, { accessFlags := 18, nameIndex := 26, descriptorIndex := 23, attributes := #[] }, { accessFlags := 18, nameIndex := 29, descriptorIndex := 30, attributes := #[] }, { accessFlags := 18, nameIndex := 33, descriptorIndex := 30, attributes := #[] }])
  fields := #[{ name := "docs", type := (.array .int), accessFlags := 18, slot := 0, constantValue := 0 }, { name := "tfs", type := (.array .double), accessFlags := 18, slot := 1, constantValue := 0 }, { name := "occurs", type := (.array .int), accessFlags := 18, slot := 2, constantValue := 0 }, { name := "from", type := .int, accessFlags := 18, slot := 3, constantValue := 0 }, { name := "to", type := .int, accessFlags := 18, slot := 4, constantValue := 0 }, { name := "documentFrequency", type := .double, accessFlags := 18, slot := 5, constantValue := 0 }, { name := "collectionFrequency", type := .double, accessFlags := 18, slot := 6, constantValue := 0 }]
  methods := #[k2m0, k2m1, k2m2]
  instanceTypes := #[(.array .int), (.array .double), (.array .int), .int, .int, .double, .double]
  staticTypes := #[]
  resolved := Array.replicate 57 none
  statics := none }

def pool3 : Array CpInfo := pool [(2, .class_ 4), (1, u "java/lang/Object"), (0, u "<init>"), (0, u "()V"), (6, .methodref 14 15), (0, .class_ 16), (0, .nameAndType 17 18), (0, u "java/util/Arrays"), (0, u "rangeCheck"), (0, u "(III)V"), (55, .class_ 76), (1, u "java/util/Arrays$NaturalOrder"), (36, .class_ 115), (1, u "java/util/Arrays$LegacyMergeSort"), (1, u "Z"), (89, u "binarySearch0"), (1, .methodref 14 210), (0, .nameAndType 207 211), (0, u "([IIII)I"), (163, .class_ 376), (0, u "java/util/Arrays$ArrayList"), (68, u "$assertionsDisabled"), (269, u "MIN_ARRAY_SORT_GRAN"), (0, u "I"), (2, u "INSERTIONSORT_THRESHOLD"), (74, u "binarySearch"), (180, .class_ 976), (0, u "java/util/Arrays$ArrayItr")] 52

def k3m0 : Method := { name := "<init>", desc := "()V", sig := { parameters := [], returnType := none }, accessFlags := 2, code := none }
def k3c1 : Code := { maxStack := 4, maxLocals := 3, code := jdk_65_method_30_code, exceptionTable := #[], attributes := #[] }
def k3m1 : Method := { name := "rangeCheck", desc := "(III)V", sig := { parameters := [.int, .int, .int], returnType := none }, accessFlags := 8, code := some k3c1 }
def k3c2 : Code := { maxStack := 4, maxLocals := 4, code := jdk_65_method_58_code, exceptionTable := #[], attributes := #[] }
def k3m2 : Method := { name := "binarySearch", desc := "([IIII)I", sig := { parameters := [(.array .int), .int, .int, .int], returnType := some .int }, accessFlags := 9, code := some k3c2 }
def k3c3 : Code := { maxStack := 2, maxLocals := 8, code := jdk_65_method_59_code, exceptionTable := #[], attributes := #[] }
def k3m3 : Method := { name := "binarySearch0", desc := "([IIII)I", sig := { parameters := [(.array .int), .int, .int, .int], returnType := some .int }, accessFlags := 10, code := some k3c3 }
/-- java/util/Arrays -/
def k3 : Class := { plain "java/util/Arrays" (some 0) with
  accessFlags := 49
  interfaces := #[]
  cf := some (fileOf pool3 14 #[.nestMembers #[975, 375, 113, 74]] #[{ accessFlags := 2, nameIndex := 5, descriptorIndex := 6, attributes := #[] }, { accessFlags := 8, nameIndex := 17, descriptorIndex := 18, attributes := #[] }, { accessFlags := 9, nameIndex := 794, descriptorIndex := 211, attributes := #[] }, { accessFlags := 10, nameIndex := 207, descriptorIndex := 211, attributes := #[] }] 49 2 #[] #[{ accessFlags := 26, nameIndex := 715, descriptorIndex := 716, attributes := #[] }, { accessFlags := 26, nameIndex := 719, descriptorIndex := 716, attributes := #[] }, { accessFlags := 4120, nameIndex := 445, descriptorIndex := 117, attributes := #[] }])
  fields := #[{ name := "MIN_ARRAY_SORT_GRAN", type := .int, accessFlags := 26, slot := 0, constantValue := 0 }, { name := "INSERTIONSORT_THRESHOLD", type := .int, accessFlags := 26, slot := 1, constantValue := 0 }, { name := "$assertionsDisabled", type := .boolean, accessFlags := 4120, slot := 2, constantValue := 0 }]
  methods := #[k3m0, k3m1, k3m2, k3m3]
  instanceTypes := #[]
  staticTypes := #[.int, .int, .boolean]
  resolved := Array.replicate 1029 none
  statics := none }

def pool4 : Array CpInfo := pool [(1, u "java/lang/Cloneable"), (0, .class_ 1), (0, u "java/lang/Object"), (0, .class_ 3)] 3

/-- java/lang/Cloneable -/
def k4 : Class := { plain "java/lang/Cloneable" (some 0) with
  accessFlags := 1537
  interfaces := #[]
  cf := some (fileOf pool4 2 #[] #[] 1537 4 #[] #[])
  fields := #[]
  methods := #[]
  instanceTypes := #[]
  staticTypes := #[]
  resolved := Array.replicate 8 none
  statics := none }

def pool5 : Array CpInfo := pool [(1, u "java/io/Serializable"), (0, .class_ 1), (0, u "java/lang/Object"), (0, .class_ 3)] 3

/-- java/io/Serializable -/
def k5 : Class := { plain "java/io/Serializable" (some 0) with
  accessFlags := 1537
  interfaces := #[]
  cf := some (fileOf pool5 2 #[] #[] 1537 4 #[] #[])
  fields := #[]
  methods := #[]
  instanceTypes := #[]
  staticTypes := #[]
  resolved := Array.replicate 8 none
  statics := none }

/-- the primitive byte -/
def k6 : Class := { plain "byte" none with kind := .primitive 'B', accessFlags := 0x411 }
/-- [B -/
def k7 : Class := { plain "[B" (some 0) with kind := .array 6 .byte, interfaces := #[4, 5], accessFlags := 1041 }

/-- the primitive double -/
def k8 : Class := { plain "double" none with kind := .primitive 'D', accessFlags := 0x411 }
/-- [D -/
def k9 : Class := { plain "[D" (some 0) with kind := .array 8 .double, interfaces := #[4, 5], accessFlags := 1041 }

/-- the primitive int -/
def k10 : Class := { plain "int" none with kind := .primitive 'I', accessFlags := 0x411 }
/-- [I -/
def k11 : Class := { plain "[I" (some 0) with kind := .array 10 .int, interfaces := #[4, 5], accessFlags := 1041 }

def heap : Heap := #[]
def classes : Array Class := #[k0, k1, k2, k3, k4, k5, k6, k7, k8, k9, k10, k11]
def interned : List (Array UInt16 × Addr) := []
def slotsUsed : Nat := 0
def theMethod : MethodId := ⟨1, 1⟩
def args0 : Array Value := #[.int 5, .int 6, .int 1, .int 2, .int 3]
def aboutOver (below : List Frame) : State where
  vm := { classes := classes, interned := interned.toArray }
  heap := heap
  slotsUsed := slotsUsed
  threads := #[{ frames := .invoking theMethod args0 :: below }]
def below0 : List Frame := [.native { method := ⟨0, 0⟩, args := #[] }]
def about1 : State := aboutOver below0
def p0 : Program := .bare "" "" ""
def e0 : Env := launch0.env 0 0 0
theorem w_frames : about1.frames = Frame.invoking theMethod args0 :: below0 := rfl
set_option maxRecDepth 65536 in
theorem w_args : argsFit about1.vm theMethod args0 = true := by decide +kernel
set_option maxRecDepth 65536 in
theorem w_heap : heapFits about1 = true := by decide +kernel
set_option maxRecDepth 65536 in
theorem w_runnable : about1.curStatus? = some .runnable := by decide +kernel
set_option maxRecDepth 65536 in
theorem w_alone : about1.alone = true := by decide +kernel
set_option maxRecDepth 65536 in
theorem w_named : about1.methodNamed? x = some theMethod := by decide +kernel
set_option maxRecDepth 65536 in
theorem w_hears : about1.hears theMethod below0 = true := by decide +kernel
set_option maxRecDepth 65536 in
theorem w_ripe : about1.ripe theMethod args0 below0 = true := by decide +kernel
theorem w_running : about1.status = .running := rfl
set_option maxRecDepth 65536 in
theorem w_room : about1.hasRoom e0.platform room_1 = true :=
  launch0.hasRoom_least _ room_1 (by decide +kernel) (by decide +kernel) (by decide +kernel) (by decide +kernel) (by decide +kernel) (by decide +kernel)
theorem allAtoms_all (ts : List Jvm.Cond) (a : Array Jvm.Value) (st : Jvm.State) : (allAtoms ts).before a st = ts.all (fun c => c.before a st) := by
  induction ts with
  | nil => rfl
  | cons c t ih =>
    show (Jvm.Cond.and c (allAtoms t)).before a st = _
    rw [Jvm.Cond.before_and, ih, List.all_cons]
def words1 : List Jvm.Cond := Jvm.Cond.code x code maxLocals ret :: tables_1
/-- a 'code' word, met by the world's own term for the bytes: nothing is compared byte by byte -/
theorem code_word {y : MethodName} {bytes : ByteArray} {mx : Nat} {rt : Option FieldType} {a : Array Value} {s : State} {m : MethodId} {meth : Method} {c : Code} (h1 : s.methodNamed? y = some m) (h2 : s.vm.method? m = some meth) (h3 : meth.code = some c) (h4 : c.code = bytes)
    (h5 : (c.maxLocals == mx && c.exceptionTable.isEmpty && decide (c.maxStack ≤ mostOperands) && decide (meth.sig.returnType = rt) && !meth.locks && decide (parseMethodDescriptor y.desc = some meth.sig)) = true) : (Jvm.Cond.code y bytes mx rt).before a s = true := by
  simp only [Bool.and_eq_true, beq_iff_eq, Bool.not_eq_true', decide_eq_true_eq] at h5
  obtain ⟨⟨⟨⟨⟨g1, g2⟩, g3⟩, g4⟩, g5⟩, g6⟩ := h5
  simp [Cond.before, Cond.holds, Cond.value, h1, h2, h3, h4, g1, g2, g3, g4, g5, g6]
def isCode : Jvm.Cond → Bool
  | .code _ _ _ _ => true
  | _ => false
theorem all_split {L : List Jvm.Cond} {P : Jvm.Cond → Bool} (h1 : L.all (fun c => isCode c || P c) = true) (h2 : ∀ c ∈ L.filter isCode, P c = true) : L.all P = true := by
  refine List.all_eq_true.mpr fun c hc => ?_
  have h := List.all_eq_true.mp h1 c hc
  rcases Bool.eq_false_or_eq_true (isCode c) with hi | hi
  · exact h2 c (List.mem_filter.mpr ⟨hc, hi⟩)
  · simpa [hi] using h
set_option maxRecDepth 65536 in
theorem w_c0 : (Jvm.Cond.code x code maxLocals ret).before args0 about1 = true := code_word (m := ⟨1, 1⟩) (meth := k1m1) (c := k1c1) (by decide +kernel) rfl rfl rfl (by decide +kernel)
set_option maxRecDepth 65536 in
theorem w_c1 : (Jvm.Cond.code ({ cls := "com/example/buurt/buurt/model/CrossTermFrequencies", name := "<init>", desc := "([I[D[III)V" } : Jvm.MethodName) prog_27_method_1_code (11 : Nat) (Option.none : Option Jvm.ClassFile.FieldType)).before args0 about1 = true := code_word (m := ⟨2, 0⟩) (meth := k2m0) (c := k2c0) (by decide +kernel) rfl rfl rfl (by decide +kernel)
set_option maxRecDepth 65536 in
theorem w_c2 : (Jvm.Cond.code ({ cls := "java/lang/Object", name := "<init>", desc := "()V" } : Jvm.MethodName) object_method_1_code (1 : Nat) (Option.none : Option Jvm.ClassFile.FieldType)).before args0 about1 = true := code_word (m := ⟨0, 0⟩) (meth := k0m0) (c := k0c0) (by decide +kernel) rfl rfl rfl (by decide +kernel)
set_option maxRecDepth 65536 in
theorem w_c3 : (Jvm.Cond.code ({ cls := "com/example/buurt/buurt/model/CrossTermFrequencies", name := "doc", desc := "(I)I" } : Jvm.MethodName) prog_27_method_3_code (2 : Nat) (Option.some Jvm.ClassFile.FieldType.int)).before args0 about1 = true := code_word (m := ⟨2, 1⟩) (meth := k2m1) (c := k2c1) (by decide +kernel) rfl rfl rfl (by decide +kernel)
set_option maxRecDepth 65536 in
theorem w_c4 : (Jvm.Cond.code ({ cls := "com/example/buurt/buurt/model/CrossTermFrequencies", name := "indexOf", desc := "(I)I" } : Jvm.MethodName) prog_27_method_6_code (3 : Nat) (Option.some Jvm.ClassFile.FieldType.int)).before args0 about1 = true := code_word (m := ⟨2, 2⟩) (meth := k2m2) (c := k2c2) (by decide +kernel) rfl rfl rfl (by decide +kernel)
set_option maxRecDepth 65536 in
theorem w_c5 : (Jvm.Cond.code ({ cls := "java/util/Arrays", name := "binarySearch", desc := "([IIII)I" } : Jvm.MethodName) jdk_65_method_58_code (4 : Nat) (Option.some Jvm.ClassFile.FieldType.int)).before args0 about1 = true := code_word (m := ⟨3, 2⟩) (meth := k3m2) (c := k3c2) (by decide +kernel) rfl rfl rfl (by decide +kernel)
set_option maxRecDepth 65536 in
theorem w_c6 : (Jvm.Cond.code ({ cls := "java/util/Arrays", name := "rangeCheck", desc := "(III)V" } : Jvm.MethodName) jdk_65_method_30_code (3 : Nat) (Option.none : Option Jvm.ClassFile.FieldType)).before args0 about1 = true := code_word (m := ⟨3, 1⟩) (meth := k3m1) (c := k3c1) (by decide +kernel) rfl rfl rfl (by decide +kernel)
set_option maxRecDepth 65536 in
theorem w_c7 : (Jvm.Cond.code ({ cls := "java/util/Arrays", name := "binarySearch0", desc := "([IIII)I" } : Jvm.MethodName) jdk_65_method_59_code (8 : Nat) (Option.some Jvm.ClassFile.FieldType.int)).before args0 about1 = true := code_word (m := ⟨3, 3⟩) (meth := k3m3) (c := k3c3) (by decide +kernel) rfl rfl rfl (by decide +kernel)
def codes1 : List Jvm.Cond := [Jvm.Cond.code x code maxLocals ret, Jvm.Cond.code ({ cls := "com/example/buurt/buurt/model/CrossTermFrequencies", name := "<init>", desc := "([I[D[III)V" } : Jvm.MethodName) prog_27_method_1_code (11 : Nat) (Option.none : Option Jvm.ClassFile.FieldType), Jvm.Cond.code ({ cls := "java/lang/Object", name := "<init>", desc := "()V" } : Jvm.MethodName) object_method_1_code (1 : Nat) (Option.none : Option Jvm.ClassFile.FieldType), Jvm.Cond.code ({ cls := "com/example/buurt/buurt/model/CrossTermFrequencies", name := "doc", desc := "(I)I" } : Jvm.MethodName) prog_27_method_3_code (2 : Nat) (Option.some Jvm.ClassFile.FieldType.int), Jvm.Cond.code ({ cls := "com/example/buurt/buurt/model/CrossTermFrequencies", name := "indexOf", desc := "(I)I" } : Jvm.MethodName) prog_27_method_6_code (3 : Nat) (Option.some Jvm.ClassFile.FieldType.int), Jvm.Cond.code ({ cls := "java/util/Arrays", name := "binarySearch", desc := "([IIII)I" } : Jvm.MethodName) jdk_65_method_58_code (4 : Nat) (Option.some Jvm.ClassFile.FieldType.int), Jvm.Cond.code ({ cls := "java/util/Arrays", name := "rangeCheck", desc := "(III)V" } : Jvm.MethodName) jdk_65_method_30_code (3 : Nat) (Option.none : Option Jvm.ClassFile.FieldType), Jvm.Cond.code ({ cls := "java/util/Arrays", name := "binarySearch0", desc := "([IIII)I" } : Jvm.MethodName) jdk_65_method_59_code (8 : Nat) (Option.some Jvm.ClassFile.FieldType.int)]
set_option maxRecDepth 65536 in
theorem codes_eq : words1.filter isCode = codes1 := rfl
theorem w_codes : ∀ c ∈ words1.filter isCode, c.before args0 about1 = true := by
  rw [codes_eq]
  intro c hc
  simp only [codes1, List.mem_cons, List.not_mem_nil, or_false] at hc
  rcases hc with rfl | rfl | rfl | rfl | rfl | rfl | rfl | rfl
  · exact w_c0
  · exact w_c1
  · exact w_c2
  · exact w_c3
  · exact w_c4
  · exact w_c5
  · exact w_c6
  · exact w_c7
set_option maxRecDepth 65536 in
theorem w_t1 : (words1.take 24).all (fun c => isCode c || c.before args0 about1) = true := by decide +kernel
set_option maxRecDepth 65536 in
theorem w_t2 : ((words1.drop 24).take 24).all (fun c => isCode c || c.before args0 about1) = true := by decide +kernel
set_option maxRecDepth 65536 in
theorem w_t3 : ((words1.drop 24).drop 24).all (fun c => isCode c || c.before args0 about1) = true := by decide +kernel
theorem w_tables : (allAtoms (Jvm.Cond.code x code maxLocals ret :: tables_1)).before args0 about1 = true := by
  rw [allAtoms_all]
  show words1.all (fun c => c.before args0 about1) = true
  refine all_split ?_ w_codes
  rw [← List.take_append_drop 24 words1, List.all_append, w_t1, ← List.take_append_drop 24 (words1.drop 24), List.all_append, w_t2, w_t3]
  rfl
set_option maxRecDepth 65536 in
theorem w_case : (Jvm.Cond.and given_1 narrow_1).before args0 about1 = true := by decide +kernel
theorem w_applies : (headSpec (Jvm.Cond.code x code maxLocals ret :: tables_1) room_1).applies x e0.platform about1 = true :=
  (Spec.applies_iff w_frames).mpr ⟨w_running, w_runnable, w_alone, w_named, w_hears, w_ripe, w_room, w_tables⟩
theorem atStart : AtStart classFile x code maxLocals ret World_1 tables_1 room_1 Calls_1 rest_1 Pre_1 launch0 p0 e0 about1 theMethod args0 below0 :=
  ⟨lists_1, trivial, launch0.admits_env _ _ _, launch0.least_env, fairChoices_fair.cas, fairChoices_fair.clock, w_frames, w_args, w_heap, w_applies, trivial, trivial, w_case⟩
end start1
theorem witness_1 : WitnessClaimed_1 := ⟨start1.p0, start1.e0, start1.about1, start1.theMethod, start1.args0, start1.below0, start1.atStart⟩
end Jvm.Pilot.@@N@@
