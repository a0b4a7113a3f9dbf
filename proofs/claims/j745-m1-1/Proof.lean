import JvmDerived
import JvmDerived.Pilot.@@N@@Statement
import JvmDerived.Pilot.@@N@@Code
set_option linter.unusedVariables false
set_option linter.unusedSimpArgs false
namespace Jvm.Pilot.@@N@@
open Jvm Jvm.ClassFile Sem Op Lib Jvm.Free Jvm.Stand Jvm.LawKit Jvm.RoadKit Bundle Jvm.Free.Fl Jvm.Pilot.@@N@@.Jvm.D
theorem own_w {a0 : Array Value} {Z : State} (hw : ∀ d ∈ tables_1, d.before a0 Z = true) (i : Nat) {d : Jvm.Cond} (h : tables_1[i]? = some d) : d.before a0 Z = true := hw _ (List.mem_of_getElem? h)
abbrev own_S (p : Program) (e : Env) (below : List Frame) (T : State) (m : MethodId) (pc : Nat) (Ls : Array Slot) (st : List Value) (t : State) : Prop := Steps p.tables e below (T.setTop (mkF m pc Ls st)) t
section Re
variable {tb : Tables} {e : Env} {below : List Frame} {T target : State} {m : MethodId} {pc : Nat} {Ls : Array Slot} {rest : List Value}
theorem reI {x y : Int32} (h : x = y) (k : Steps tb e below (T.setTop (mkF m pc Ls (.int y :: rest))) target) : Steps tb e below (T.setTop (mkF m pc Ls (.int x :: rest))) target := by rw [h]; exact k
theorem reJ {x y : Int64} (h : x = y) (k : Steps tb e below (T.setTop (mkF m pc Ls (.long y :: rest))) target) : Steps tb e below (T.setTop (mkF m pc Ls (.long x :: rest))) target := by rw [h]; exact k
theorem reD {x y : UInt64} (h : x = y) (k : Steps tb e below (T.setTop (mkF m pc Ls (.double y :: rest))) target) : Steps tb e below (T.setTop (mkF m pc Ls (.double x :: rest))) target := by rw [h]; exact k
theorem re2I {v : Value} {x y : Int32} (h : x = y) (k : Steps tb e below (T.setTop (mkF m pc Ls (v :: .int y :: rest))) target) : Steps tb e below (T.setTop (mkF m pc Ls (v :: .int x :: rest))) target := by rw [h]; exact k
theorem own_nnl {e v : UInt64} (h : e = v) (hv : NoNaN64 v) : NoNaN64 e := h ▸ hv
end Re
section OwnInt
theorem own_lmul {x y : Int64} {A B : Nat} (hx : x.toInt.natAbs ≤ A) (hy : y.toInt.natAbs ≤ B) (h : A * B < 2 ^ 62) : (x * y).toInt = x.toInt * y.toInt := by
  have hb : (x.toInt * y.toInt).natAbs ≤ A * B := by rw [Int.natAbs_mul]; exact Nat.mul_le_mul hx hy
  rw [Int64.toInt_mul]; exact Int.bmod_eq_of_le (by omega) (by omega)
theorem own_ladd {x y : Int64} {A B : Nat} (hx : x.toInt.natAbs ≤ A) (hy : y.toInt.natAbs ≤ B) (h : A + B < 2 ^ 62) : (x + y).toInt = x.toInt + y.toInt := by
  rw [Int64.toInt_add]; exact Int.bmod_eq_of_le (by omega) (by omega)
theorem own_lsub {x y : Int64} {A B : Nat} (hx : x.toInt.natAbs ≤ A) (hy : y.toInt.natAbs ≤ B) (h : A + B < 2 ^ 62) : (x - y).toInt = x.toInt - y.toInt := by
  rw [Int64.toInt_sub]; exact Int.bmod_eq_of_le (by omega) (by omega)
theorem own_maskL {x m : Int64} {k : Nat} (hk : k ≤ 63) (hm : m.toBitVec.toNat = 2 ^ k - 1) : 0 ≤ (x &&& m).toInt ∧ (x &&& m).toInt < ((2 ^ k : Nat) : Int) := by
  rw [c_maskL x m k hk hm]
  have p : (0 : Int) < ((2 ^ k : Nat) : Int) := by have := Nat.two_pow_pos k; omega
  exact ⟨Int.emod_nonneg _ (by omega), Int.emod_lt_of_pos _ p⟩
theorem own_maskI {x m : Int32} {k : Nat} (hk : k ≤ 31) (hm : m.toBitVec.toNat = 2 ^ k - 1) : 0 ≤ (x &&& m).toInt ∧ (x &&& m).toInt < ((2 ^ k : Nat) : Int) := by
  rw [c_mask x m k hk hm]
  have p : (0 : Int) < ((2 ^ k : Nat) : Int) := by have := Nat.two_pow_pos k; omega
  exact ⟨Int.emod_nonneg _ (by omega), Int.emod_lt_of_pos _ p⟩
theorem own_cases32 {x : Int32} {n : Nat} (h0 : 0 ≤ x.toInt) (h1 : x.toInt < (n : Int)) : ∃ k : Nat, k < n ∧ x = Int32.ofNat k := by
  refine ⟨x.toInt.toNat, by omega, ?_⟩
  apply Int32.toInt_inj.mp
  have hx := x.toInt_lt
  rw [Int32.toInt_ofNat_of_lt (by omega)]
  omega
theorem own_irem {x z m : Int32} (h : z = x % m) {M : Int} (hm : m.toInt = M) (hM : 0 < M) : -M < z.toInt ∧ z.toInt < M ∧ (0 ≤ x.toInt → 0 ≤ z.toInt) := by
  have q := c_irem x m M hm
  rcases (by omega : x.toInt < 0 ∨ 0 ≤ x.toInt) with a | a
  · have := q.2 a; rw [← h] at this
    have b1 := Int.emod_nonneg (-x.toInt) (show M ≠ 0 by omega); have b2 := Int.emod_lt_of_pos (-x.toInt) hM
    omega
  · have := q.1 a; rw [← h] at this
    have b1 := Int.emod_nonneg x.toInt (show M ≠ 0 by omega); have b2 := Int.emod_lt_of_pos x.toInt hM
    omega
theorem own_ple {j k : Nat} (h : j ≤ k) : (2 : Int) ^ j ≤ 2 ^ k := by
  have h1 : ((2 ^ j : Nat) : Int) = (2 : Int) ^ j := Int.natCast_pow 2 j
  have h2 : ((2 ^ k : Nat) : Int) = (2 : Int) ^ k := Int.natCast_pow 2 k
  have h3 : 2 ^ j ≤ 2 ^ k := Nat.pow_le_pow_right (by decide) h
  rw [← h1, ← h2]; omega
end OwnInt
def own_r0 (q : Int64) : Int64 := q - (q / (9218868437227405313 : Int64)) * (9218868437227405313 : Int64)
def own_tor (q : Int64) (p : Int32) : Int64 := if (lcmpW (own_r0 q) (0 : Int64)) < (0 : Int32) then (if p = (0 : Int32) then own_r0 q else own_r0 q - (1 : Int64)) else own_r0 q
def own_ub (q : Int64) : Int64 := if (lcmpW q (0 : Int64)) < (0 : Int32) then q ^^^ (9223372036854775807 : Int64) else q
def own_unb (q : Int64) : UInt64 := (own_ub q).toUInt64
def own_ord (d : UInt64) : Int64 := own_ub d.toInt64
def own_nz (d : UInt64) : Int32 := if (cmpValue (FP.dcmp d (0 : UInt64)) .l) = (0 : Int32) then (if (cmpValue (FP.dcmp (FP.ddiv (4607182418800017408 : UInt64) d) (0 : UInt64)) .g) < (0 : Int32) then 1 else 0) else 0
def own_bef (a b : UInt64) : Int32 := if (cmpValue (FP.dcmp a b) .g) < (0 : Int32) then 1 else if (cmpValue (FP.dcmp a b) .l) = (0 : Int32) then (if own_nz a = (0 : Int32) then 0 else if own_nz b = (0 : Int32) then 1 else 0) else 0
def own_ok (b : Int64) : Prop := (b.toUInt64 &&& 0x7fffffffffffffff > 0x7ff0000000000000 && b.toUInt64 &&& 0x0008000000000000 == 0) = false
theorem own_tor_b (q : Int64) (p : Int32) : -9218868437227405313 ≤ (own_tor q p).toInt ∧ (own_tor q p).toInt ≤ 9218868437227405312 := by
  have h := c_lrem q 9218868437227405313 9218868437227405313 (by decide)
  have hr : -9218868437227405313 < (own_r0 q).toInt ∧ (own_r0 q).toInt < 9218868437227405313 := by
    unfold own_r0
    rcases (by omega : q.toInt < 0 ∨ 0 ≤ q.toInt) with a | a
    · rw [h.2 a]
      have b1 := Int.emod_nonneg (-q.toInt) (show (9218868437227405313 : Int) ≠ 0 by decide); have b2 := Int.emod_lt_of_pos (-q.toInt) (show (0 : Int) < 9218868437227405313 by decide)
      omega
    · rw [h.1 a]
      have b1 := Int.emod_nonneg q.toInt (show (9218868437227405313 : Int) ≠ 0 by decide); have b2 := Int.emod_lt_of_pos q.toInt (show (0 : Int) < 9218868437227405313 by decide)
      omega
  unfold own_tor
  split
  · split
    · omega
    · rw [Int64.toInt_sub, show (1 : Int64).toInt = 1 by decide, Int.bmod_eq_of_le (by omega) (by omega)]
      omega
  · omega
theorem own_xor63 (q : Int64) : (q ^^^ (9223372036854775807 : Int64)) ^^^ (9223372036854775807 : Int64) = q := by
  rw [Int64.xor_assoc, Int64.xor_self, Int64.xor_zero]
theorem own_ubub (q : Int64) : own_ub (own_ub q) = q := by
  have hs := c_xorSL q (9223372036854775807 : Int64)
  have hM : (0 : Int) ≤ (9223372036854775807 : Int64).toInt := by decide
  by_cases h : (lcmpW q (0 : Int64)) < (0 : Int32)
  · have h1 : own_ub q = q ^^^ (9223372036854775807 : Int64) := by unfold own_ub; rw [if_pos h]
    have hq : q.toInt < 0 := Int64.lt_iff_toInt_lt.mp ((lw_lt _ _).mp h)
    have h2 := hs.2.1 hq hM
    have h3 : (lcmpW (q ^^^ (9223372036854775807 : Int64)) (0 : Int64)) < (0 : Int32) := (lw_lt _ _).mpr (Int64.lt_iff_toInt_lt.mpr h2)
    rw [h1]; unfold own_ub; rw [if_pos h3, own_xor63]
  · have h1 : own_ub q = q := by unfold own_ub; rw [if_neg h]
    rw [h1, h1]
theorem own_ordunb (q : Int64) : own_ord (own_unb q) = q := by
  unfold own_ord own_unb
  rw [show (own_ub q).toUInt64.toInt64 = own_ub q from rfl]
  exact own_ubub q
theorem own_asym {x y : Int64} (h : (lcmpW x y) < (0 : Int32)) : ¬ (lcmpW y x) < (0 : Int32) := fun g => by
  have h1 := Int64.lt_iff_toInt_lt.mp ((lw_lt _ _).mp h); have h2 := Int64.lt_iff_toInt_lt.mp ((lw_lt _ _).mp g); omega
theorem own_flip (w r : Nat) (h : r < 2 ^ w) : r ^^^ (2 ^ w - 1) = 2 ^ w - 1 - r := by
  have h1 := @BitVec.toNat_not w (BitVec.ofNat w r)
  rw [BitVec.not_def, BitVec.toNat_xor, BitVec.toNat_allOnes, BitVec.toNat_ofNat, Nat.mod_eq_of_lt h] at h1
  rw [Nat.xor_comm]; exact h1
theorem own_not63 (n : Nat) (h1 : 9223372036854775808 ≤ n) (h2 : n < 18446744073709551616) : n ^^^ 9223372036854775807 = 9223372036854775808 + (18446744073709551615 - n) := by
  obtain ⟨r, rfl⟩ : ∃ r, n = r + 9223372036854775808 := ⟨n - 9223372036854775808, by omega⟩
  have e1 := (FP.xor_top (a := r) (k := 63) (by omega)).1 (by omega)
  have e2 := own_flip 63 r (by omega)
  have e3 := (FP.xor_top (a := 9223372036854775807 - r) (k := 63) (by omega)).1 (by omega)
  rw [show (2 : Nat) ^ 63 = 9223372036854775808 by decide] at e1 e2 e3
  rw [show (9223372036854775808 - 1 : Nat) = 9223372036854775807 by decide] at e2
  rw [← e1, Nat.xor_assoc, Nat.xor_comm 9223372036854775808, ← Nat.xor_assoc, e2, e3]
  omega
/-- the bits of own_unb q as a number -/
theorem own_unb_nat (q : Int64) : (q.toInt < 0 → (own_unb q).toNat = 9223372036854775808 + (-q.toInt - 1).toNat) ∧ (0 ≤ q.toInt → (own_unb q).toNat = q.toInt.toNat) := by
  have hq : q.toInt = if 2 * q.toUInt64.toNat < 2 ^ 64 then (q.toUInt64.toNat : Int) else (q.toUInt64.toNat : Int) - ((2 ^ 64 : Nat) : Int) := by
    rw [← Int64.toNat_toBitVec]; exact BitVec.toInt_eq_toNat_cond q.toBitVec
  have hn := q.toUInt64.toNat_lt
  constructor
  · intro h
    have h1 : own_ub q = q ^^^ (9223372036854775807 : Int64) := by unfold own_ub; rw [if_pos ((lw_lt _ _).mpr (Int64.lt_iff_toInt_lt.mpr h))]
    unfold own_unb
    rw [h1, ← Int64.toNat_toBitVec, Int64.toBitVec_xor, BitVec.toNat_xor, Int64.toNat_toBitVec, show (9223372036854775807 : Int64).toBitVec.toNat = 9223372036854775807 by decide]
    split at hq
    · omega
    · rw [own_not63 _ (by omega) (by omega)]; omega
  · intro h
    have h1 : own_ub q = q := by unfold own_ub; rw [if_neg (fun g => by have := Int64.lt_iff_toInt_lt.mp ((lw_lt _ _).mp g); rw [show (0 : Int64).toInt = 0 from rfl] at this; omega)]
    unfold own_unb
    rw [h1]
    split at hq <;> omega
theorem own_mag {q : Int64} (h1 : -9218868437227405313 ≤ q.toInt) (h2 : q.toInt ≤ 9218868437227405312) : (own_unb q).toNat % 9223372036854775808 ≤ 9218868437227405312 := by
  have h := own_unb_nat q
  rcases (by omega : q.toInt < 0 ∨ 0 ≤ q.toInt) with a | a
  · rw [h.1 a]; omega
  · rw [h.2 a]; omega
theorem own_nn {q : Int64} (h1 : -9218868437227405313 ≤ q.toInt) (h2 : q.toInt ≤ 9218868437227405312) : NoNaN64 (own_unb q) := (noNaN64_iff _).mpr (own_mag h1 h2)
theorem own_okb {q : Int64} (h1 : -9218868437227405313 ≤ q.toInt) (h2 : q.toInt ≤ 9218868437227405312) : own_ok (own_ub q) := by
  have h := own_nn h1 h2
  unfold NoNaN64 own_unb at h
  unfold own_ok
  have : ¬ ((own_ub q).toUInt64 &&& 0x7fffffffffffffff > 0x7ff0000000000000) := UInt64.not_lt.mpr h
  simp [this]
theorem own_key {q : Int64} : FP.Core.dkey (own_unb q) = if q.toInt < 0 then q.toInt + 1 else q.toInt := by
  have h := own_unb_nat q
  have hb := q.le_toInt
  unfold FP.Core.dkey
  rcases (by omega : q.toInt < 0 ∨ 0 ≤ q.toInt) with a | a
  · rw [if_pos a, h.1 a, if_pos (by omega)]; omega
  · have hl := q.toInt_lt
    rw [if_neg (by omega), h.2 a, if_neg (by omega)]; omega
theorem own_val {x : UInt64} (h : NoNaN64 x) : FP.Core.val64 x ≠ .nan := (FP.Core.notNaN_iff x).mp (noNaN64_no.mp h)
theorem own_cmpk {a b : UInt64} (ha : NoNaN64 a) (hb : NoNaN64 b) (o : CmpOp) : cmpValue (FP.dcmp a b) o = if FP.Core.dkey a < FP.Core.dkey b then -1 else if FP.Core.dkey a = FP.Core.dkey b then 0 else 1 := by
  rw [show FP.dcmp a b = some (compare (FP.Core.dkey a) (FP.Core.dkey b)) from FP.Core.dcmp_key (own_val ha) (own_val hb)]
  generalize FP.Core.dkey a = x
  generalize FP.Core.dkey b = y
  rcases Int.lt_trichotomy x y with h | h | h
  · rw [if_pos h, show compare x y = .lt from by simp [compare, compareOfLessAndEq, h]]; cases o <;> rfl
  · rw [if_neg (by omega), if_pos h, show compare x y = .eq from by subst h; simp [compare, compareOfLessAndEq]]; cases o <;> rfl
  · rw [if_neg (by omega), if_neg (by omega), show compare x y = .gt from by simp [compare, compareOfLessAndEq, show ¬ x < y by omega, show ¬ x = y by omega]]; cases o <;> rfl
theorem own_z01 {d : UInt64} (h : (cmpValue (FP.dcmp d (0 : UInt64)) .l) = (0 : Int32)) : d = 0 ∨ d = 9223372036854775808 := by
  apply FP.Core.zero_bits
  show FP.dcmp d 0 = some .eq
  cases e : FP.dcmp d 0 with
  | none => rw [e] at h; exact absurd h (by decide)
  | some o => rw [e] at h; cases o <;> first | rfl | exact absurd h (by decide)
theorem own_nn1 {d : UInt64} (h : (cmpValue (FP.dcmp d (0 : UInt64)) .l) = (0 : Int32)) : NoNaN64 (FP.ddiv (4607182418800017408 : UInt64) d) := by
  rcases own_z01 h with rfl | rfl
  · rw [show FP.ddiv (4607182418800017408 : UInt64) 0 = 9218868437227405312 by decide +kernel]; unfold NoNaN64; decide
  · rw [show FP.ddiv (4607182418800017408 : UInt64) 9223372036854775808 = 18442240474082181120 by decide +kernel]; unfold NoNaN64; decide
theorem own_nzP : own_nz 0 = 0 := by decide +kernel
theorem own_nzN : own_nz 9223372036854775808 = 1 := by decide +kernel
theorem own_unb0 {q : Int64} (h : FP.Core.dkey (own_unb q) = 0) : (q.toInt = 0 ∧ own_unb q = 0) ∨ (q.toInt = -1 ∧ own_unb q = 9223372036854775808) := by
  rw [own_key] at h
  have hn := own_unb_nat q
  split at h
  · right
    have e : q.toInt = -1 := by omega
    refine ⟨e, UInt64.toNat.inj ?_⟩
    rw [hn.1 (by omega), e]; decide
  · left
    refine ⟨h, UInt64.toNat.inj ?_⟩
    rw [hn.2 (by omega), h]; decide
theorem own_bef1 {x y : Int64} (x1 : -9218868437227405313 ≤ x.toInt) (x2 : x.toInt ≤ 9218868437227405312) (y1 : -9218868437227405313 ≤ y.toInt) (y2 : y.toInt ≤ 9218868437227405312) (h : x < y) : own_bef (own_unb x) (own_unb y) = 1 := by
  have hl := Int64.lt_iff_toInt_lt.mp h
  have kx := own_key (q := x); have ky := own_key (q := y)
  unfold own_bef
  rw [own_cmpk (own_nn x1 x2) (own_nn y1 y2), own_cmpk (own_nn x1 x2) (own_nn y1 y2)]
  by_cases g : FP.Core.dkey (own_unb x) < FP.Core.dkey (own_unb y)
  · rw [if_pos g]; rfl
  · have g2 : FP.Core.dkey (own_unb x) = FP.Core.dkey (own_unb y) := by rw [kx, ky] at g ⊢; split at g <;> split at g <;> simp_all <;> omega
    have g3 : FP.Core.dkey (own_unb x) = 0 ∧ FP.Core.dkey (own_unb y) = 0 := by rw [kx, ky] at g2 ⊢; split at g2 <;> split at g2 <;> simp_all <;> omega
    rw [if_neg g, if_pos g2]
    rcases own_unb0 g3.1 with ⟨a1, a2⟩ | ⟨a1, a2⟩ <;> rcases own_unb0 g3.2 with ⟨c1, c2⟩ | ⟨c1, c2⟩
    · omega
    · omega
    · rw [a2, c2, own_nzP, own_nzN]; decide
    · omega
theorem own_bef0 {x y : Int64} (x1 : -9218868437227405313 ≤ x.toInt) (x2 : x.toInt ≤ 9218868437227405312) (y1 : -9218868437227405313 ≤ y.toInt) (y2 : y.toInt ≤ 9218868437227405312) (h : ¬ x < y) : own_bef (own_unb x) (own_unb y) = 0 := by
  have hl : ¬ x.toInt < y.toInt := fun g => h (Int64.lt_iff_toInt_lt.mpr g)
  have kx := own_key (q := x); have ky := own_key (q := y)
  unfold own_bef
  rw [own_cmpk (own_nn x1 x2) (own_nn y1 y2), own_cmpk (own_nn x1 x2) (own_nn y1 y2)]
  have g : ¬ FP.Core.dkey (own_unb x) < FP.Core.dkey (own_unb y) := by rw [kx, ky]; split <;> split <;> omega
  rw [if_neg g]
  by_cases g2 : FP.Core.dkey (own_unb x) = FP.Core.dkey (own_unb y)
  · rw [if_pos g2, if_neg (by decide), if_pos rfl]
    by_cases g3 : FP.Core.dkey (own_unb x) = 0
    · rcases own_unb0 g3 with ⟨a1, a2⟩ | ⟨a1, a2⟩
      · rw [a2, own_nzP]; rfl
      · rcases own_unb0 (g2 ▸ g3) with ⟨c1, c2⟩ | ⟨c1, c2⟩
        · omega
        · rw [a2, c2, own_nzN]; decide
    · have : own_nz (own_unb x) = 0 := by
        unfold own_nz
        rw [own_cmpk (own_nn x1 x2) (by unfold NoNaN64; decide), show FP.Core.dkey 0 = 0 by decide]
        rw [if_neg]
        split <;> (try rw [if_neg g3]) <;> decide
      rw [this]; rfl
  · rw [if_neg g2, if_neg (by decide), if_neg (by decide)]

theorem d1_0 : decode method_2_code 0 = .ok (.lload_n 0, 1) := by decide +kernel
theorem d1_1 : decode method_2_code 1 = .ok (.ldc2_w 7, 3) := by decide +kernel
theorem d1_4 : decode method_2_code 4 = .ok (.lrem, 1) := by decide +kernel
theorem d1_5 : decode method_2_code 5 = .ok (.lstore_n 3, 1) := by decide +kernel
theorem d1_6 : decode method_2_code 6 = .ok (.lload_n 3, 1) := by decide +kernel
theorem d1_7 : decode method_2_code 7 = .ok (.lconst 0, 1) := by decide +kernel
theorem d1_8 : decode method_2_code 8 = .ok (.lcmp, 1) := by decide +kernel
theorem d1_9 : decode method_2_code 9 = .ok (.ifCond .ge 11, 3) := by decide +kernel
theorem d1_12 : decode method_2_code 12 = .ok (.iload_n 2, 1) := by decide +kernel
theorem d1_13 : decode method_2_code 13 = .ok (.ifCond .eq 7, 3) := by decide +kernel
theorem d1_16 : decode method_2_code 16 = .ok (.lload_n 3, 1) := by decide +kernel
theorem d1_17 : decode method_2_code 17 = .ok (.lconst 1, 1) := by decide +kernel
theorem d1_18 : decode method_2_code 18 = .ok (.lsub, 1) := by decide +kernel
theorem d1_19 : decode method_2_code 19 = .ok (.lstore_n 3, 1) := by decide +kernel
theorem d1_20 : decode method_2_code 20 = .ok (.lload_n 3, 1) := by decide +kernel
theorem d1_21 : decode method_2_code 21 = .ok (.lreturn, 1) := by decide +kernel
theorem pn0 : plainName "com/example/minisum/minisum/DistanceSumOrderPinLaw" = true := by first | (simp [plainName, overriddenIn]; done) | decide +kernel
theorem efm1 (m : MethodId) (q0 : Int64) (p1 : Int32) : entryFrame m #[(.long q0), (.int p1)] 5 = mkF m 0 #[.val (.long q0), .second, .val (.int p1), .unset, .unset] [] := by first | (simp [entryFrame, mkF, argsToLocals, Value.category]; done) | rfl
def Qm1 (Z : State) (q0 : Int64) (p1 : Int32) (h0 : Heap) (n0 : Nat) (v : Option Value) (h : Heap) (L : List Loc) : Prop := v = some (.long (own_tor q0 p1)) ∧ Fr n0 L ∧ (h = h0)
set_option maxRecDepth 65536 in
set_option maxHeartbeats 40000000 in
theorem rmm1 (l : Launch) (Z : State) (a0 : Array Value) (hw : ∀ d ∈ tables_1, d.before a0 Z = true) (ws : List Jvm.Cond) (q0 : Int64) (p1 : Int32) (h0 : Heap) (n0 : Nat) (Z0 : n0 ≤ h0.size)  :
    MetFree l (⟨"com/example/minisum/minisum/DistanceSumOrderPinLaw", "toOrderRange", "(JI)J"⟩ : MethodName) (head1 (Jvm.Cond.code (⟨"com/example/minisum/minisum/DistanceSumOrderPinLaw", "toOrderRange", "(JI)J"⟩ : MethodName) method_2_code 5 (some .long) :: ws) ({ frames := 0, cells := 0, slots := 0, locals := 0 } : Room)) (fun a U => a = #[(.long q0), (.int p1)] ∧ Z.Warmed39 U.vm ∧ U.heap = h0) (fun _ _ _ _ _ => True) (fun _ U o U' => ∃ v L, o = .returned v ∧ Qm1 Z q0 p1 h0 n0 v U'.heap L ∧ FrameEnd U o U' L ({ frames := 0, cells := 0, slots := 0, locals := 0 } : Room).cells ({ frames := 0, cells := 0, slots := 0, locals := 0 } : Room).slots) := by
  refine MetFree.of_bodySF (plainFor_of_name pn0) hisR ?_
  intro p e s m args below meth c s₁ Bd hml0 hP hK
  obtain ⟨rfl, hZ, hh⟩ := hP
  have hx := Bd.exec
  have hby := Bd.bytes
  have hml : c.maxLocals = 5 := hml0
  have hown : s.vm.findClass "com/example/minisum/minisum/DistanceSumOrderPinLaw" = some m.cls := findClass_of_methodNamed Bd.named
  have hnm := (name_of_methodNamed Bd.named Bd.method).1
  have X0 : Stand p l e ({ frames := 0, cells := 0, slots := 0, locals := 0 } : Room) s m #[(.long q0), (.int p1)] below meth c s₁ [] 0 0 := Stand.of_body Bd
  have e0 : s₁.heap = h0 := by rw [← hh, Bd.state]; rfl
  have N0 := Fr.nil n0
  have pre0 : ∀ t, Steps p.tables e below (s₁.setTop (mkF m 0 #[.val (.long q0), .second, .val (.int p1), .unset, .unset] [])) t → Steps p.tables e below (s₁.setTop (entryFrame m #[(.long q0), (.int p1)] 5)) t := fun t k => castTop (efm1 m q0 p1) k
  have pre101 : ∀ t, Steps p.tables e below (s₁.setTop (mkF m 9 #[.val (.long q0), .second, .val (.int p1), .val (.long (own_r0 q0)), .second] [(.int (lcmpW (own_r0 q0) (0 : Int64)))])) t → Steps p.tables e below (s₁.setTop (mkF m 0 #[.val (.long q0), .second, .val (.int p1), .unset, .unset] [])) t := by
    intro t kt
    show own_S p e below s₁ m 0 #[.val (.long q0), .second, .val (.int p1), .unset, .unset] [] _
    refine XS.lloadN X0.here hx rfl (hb hby d1_0) rfl ?_
    show own_S p e below s₁ m 1 #[.val (.long q0), .second, .val (.int p1), .unset, .unset] [(.long q0)] _
    refine X0.ldc2Long hx hown (mvT hZ (own_w hw 4 rfl)) (g := (mkF m 1 #[.val (.long q0), .second, .val (.int p1), .unset, .unset] [(.long q0)])) rfl (hb hby d1_1) _ ?_
    show own_S p e below s₁ m 4 #[.val (.long q0), .second, .val (.int p1), .unset, .unset] [(.long (9218868437227405313 : Int64)), (.long q0)] _
    refine XS.lrem X0.here hx rfl (hb hby d1_4) rfl (by decide) ?_
    show own_S p e below s₁ m 5 #[.val (.long q0), .second, .val (.int p1), .unset, .unset] [(.long (q0 - (q0 / (9218868437227405313 : Int64)) * (9218868437227405313 : Int64)))] _
    refine reJ (rfl : (q0 - (q0 / (9218868437227405313 : Int64)) * (9218868437227405313 : Int64)) = (own_r0 q0)) ?_
    show own_S p e below s₁ m 5 #[.val (.long q0), .second, .val (.int p1), .unset, .unset] [(.long (own_r0 q0))] _
    refine XS.lstoreN X0.here hx rfl (hb hby d1_5) rfl (l' := #[.val (.long q0), .second, .val (.int p1), .val (.long (own_r0 q0)), .second]) rfl ?_
    show own_S p e below s₁ m 6 #[.val (.long q0), .second, .val (.int p1), .val (.long (own_r0 q0)), .second] [] _
    refine XS.lloadN X0.here hx rfl (hb hby d1_6) rfl ?_
    show own_S p e below s₁ m 7 #[.val (.long q0), .second, .val (.int p1), .val (.long (own_r0 q0)), .second] [(.long (own_r0 q0))] _
    refine XS.lconst X0.here hx rfl (hb hby d1_7) ?_
    show own_S p e below s₁ m 8 #[.val (.long q0), .second, .val (.int p1), .val (.long (own_r0 q0)), .second] [(.long (0 : Int64)), (.long (own_r0 q0))] _
    refine XS.lcmp X0.here hx rfl (hb hby d1_8) rfl ?_
    exact kt
  by_cases ha : (lcmpW (own_r0 q0) (0 : Int64)) < (0 : Int32)
  · skip
    have pre102 : ∀ t, Steps p.tables e below (s₁.setTop (mkF m 13 #[.val (.long q0), .second, .val (.int p1), .val (.long (own_r0 q0)), .second] [(.int p1)])) t → Steps p.tables e below (s₁.setTop (mkF m 0 #[.val (.long q0), .second, .val (.int p1), .unset, .unset] [])) t := by
      intro t kt
      refine pre101 _ ?_
      show own_S p e below s₁ m 9 #[.val (.long q0), .second, .val (.int p1), .val (.long (own_r0 q0)), .second] [(.int (lcmpW (own_r0 q0) (0 : Int64)))] _
      refine XS.ifNo X0.here hx rfl (hb hby d1_9) rfl ((if0 _ _).trans (tlt (ha : (lcmpW (own_r0 q0) (0 : Int64)) < (0 : Int32))).2.1) ?_
      show own_S p e below s₁ m 12 #[.val (.long q0), .second, .val (.int p1), .val (.long (own_r0 q0)), .second] [] _
      refine XS.iloadN X0.here hx rfl (hb hby d1_12) rfl ?_
      exact kt
    by_cases hb_ : p1 = (0 : Int32)
    · skip
      obtain ⟨fs, hr, hrun, hended, hW, hsame⟩ := X0.leave (v := some (.long (own_r0 q0))) (fun h => by rw [Bd.returns] at h; cases h)
      refine ⟨_, _, pre0 _ (pre102 _ ?_), hrun, hended, _, _, rfl, ?_, ⟨_, rfl⟩, hW, hsame.mono (by decide) (by decide)⟩
      · show own_S p e below s₁ m 13 #[.val (.long q0), .second, .val (.int p1), .val (.long (own_r0 q0)), .second] [(.int p1)] _
        refine XS.ifYes X0.here hx rfl (pc0 := 13) (pc' := 20) rfl (hb hby d1_13) rfl ((if0 _ _).trans (teq (hb_ : p1 = (0 : Int32))).1) (by decide) (by decide) ?_
        show own_S p e below s₁ m 20 #[.val (.long q0), .second, .val (.int p1), .val (.long (own_r0 q0)), .second] [] _
        refine XS.lloadN X0.here hx rfl (hb hby d1_20) rfl ?_
        show own_S p e below s₁ m 21 #[.val (.long q0), .second, .val (.int p1), .val (.long (own_r0 q0)), .second] [(.long (own_r0 q0))] _
        exact retOut X0 hx Bd.returns rfl (Or.inr (Or.inl ⟨rfl, rfl, _, rfl⟩)) (hb hby d1_21) hr
      · show Qm1 Z q0 p1 h0 n0 _ s₁.heap _
        rw [e0]
        exact ⟨(by simp [own_tor, *]), N0, rfl⟩
    · skip
      obtain ⟨fs, hr, hrun, hended, hW, hsame⟩ := X0.leave (v := some (.long ((own_r0 q0) - (1 : Int64)))) (fun h => by rw [Bd.returns] at h; cases h)
      refine ⟨_, _, pre0 _ (pre102 _ ?_), hrun, hended, _, _, rfl, ?_, ⟨_, rfl⟩, hW, hsame.mono (by decide) (by decide)⟩
      · show own_S p e below s₁ m 13 #[.val (.long q0), .second, .val (.int p1), .val (.long (own_r0 q0)), .second] [(.int p1)] _
        refine XS.ifNo X0.here hx rfl (hb hby d1_13) rfl ((if0 _ _).trans (feq (hb_ : ¬ (p1 = (0 : Int32)))).1) ?_
        show own_S p e below s₁ m 16 #[.val (.long q0), .second, .val (.int p1), .val (.long (own_r0 q0)), .second] [] _
        refine XS.lloadN X0.here hx rfl (hb hby d1_16) rfl ?_
        show own_S p e below s₁ m 17 #[.val (.long q0), .second, .val (.int p1), .val (.long (own_r0 q0)), .second] [(.long (own_r0 q0))] _
        refine XS.lconst X0.here hx rfl (hb hby d1_17) ?_
        show own_S p e below s₁ m 18 #[.val (.long q0), .second, .val (.int p1), .val (.long (own_r0 q0)), .second] [(.long (1 : Int64)), (.long (own_r0 q0))] _
        refine XS.lsub X0.here hx rfl (hb hby d1_18) rfl ?_
        show own_S p e below s₁ m 19 #[.val (.long q0), .second, .val (.int p1), .val (.long (own_r0 q0)), .second] [(.long ((own_r0 q0) - (1 : Int64)))] _
        refine XS.lstoreN X0.here hx rfl (hb hby d1_19) rfl (l' := #[.val (.long q0), .second, .val (.int p1), .val (.long ((own_r0 q0) - (1 : Int64))), .second]) rfl ?_
        show own_S p e below s₁ m 20 #[.val (.long q0), .second, .val (.int p1), .val (.long ((own_r0 q0) - (1 : Int64))), .second] [] _
        refine XS.lloadN X0.here hx rfl (hb hby d1_20) rfl ?_
        show own_S p e below s₁ m 21 #[.val (.long q0), .second, .val (.int p1), .val (.long ((own_r0 q0) - (1 : Int64))), .second] [(.long ((own_r0 q0) - (1 : Int64)))] _
        exact retOut X0 hx Bd.returns rfl (Or.inr (Or.inl ⟨rfl, rfl, _, rfl⟩)) (hb hby d1_21) hr
      · show Qm1 Z q0 p1 h0 n0 _ s₁.heap _
        rw [e0]
        exact ⟨(by simp [own_tor, *]), N0, rfl⟩
  · skip
    obtain ⟨fs, hr, hrun, hended, hW, hsame⟩ := X0.leave (v := some (.long (own_r0 q0))) (fun h => by rw [Bd.returns] at h; cases h)
    refine ⟨_, _, pre0 _ (pre101 _ ?_), hrun, hended, _, _, rfl, ?_, ⟨_, rfl⟩, hW, hsame.mono (by decide) (by decide)⟩
    · show own_S p e below s₁ m 9 #[.val (.long q0), .second, .val (.int p1), .val (.long (own_r0 q0)), .second] [(.int (lcmpW (own_r0 q0) (0 : Int64)))] _
      refine XS.ifYes X0.here hx rfl (pc0 := 9) (pc' := 20) rfl (hb hby d1_9) rfl ((if0 _ _).trans (flt (ha : ¬ ((lcmpW (own_r0 q0) (0 : Int64)) < (0 : Int32)))).2.1) (by decide) (by decide) ?_
      show own_S p e below s₁ m 20 #[.val (.long q0), .second, .val (.int p1), .val (.long (own_r0 q0)), .second] [] _
      refine XS.lloadN X0.here hx rfl (hb hby d1_20) rfl ?_
      show own_S p e below s₁ m 21 #[.val (.long q0), .second, .val (.int p1), .val (.long (own_r0 q0)), .second] [(.long (own_r0 q0))] _
      exact retOut X0 hx Bd.returns rfl (Or.inr (Or.inl ⟨rfl, rfl, _, rfl⟩)) (hb hby d1_21) hr
    · show Qm1 Z q0 p1 h0 n0 _ s₁.heap _
      rw [e0]
      exact ⟨(by simp [own_tor, *]), N0, rfl⟩
theorem d2_0 : decode prog_4_method_11_code 0 = .ok (.lload_n 0, 1) := by decide +kernel
theorem d2_1 : decode prog_4_method_11_code 1 = .ok (.lconst 0, 1) := by decide +kernel
theorem d2_2 : decode prog_4_method_11_code 2 = .ok (.lcmp, 1) := by decide +kernel
theorem d2_3 : decode prog_4_method_11_code 3 = .ok (.ifCond .ge 11, 3) := by decide +kernel
theorem d2_6 : decode prog_4_method_11_code 6 = .ok (.lload_n 0, 1) := by decide +kernel
theorem d2_7 : decode prog_4_method_11_code 7 = .ok (.ldc2_w 174, 3) := by decide +kernel
theorem d2_10 : decode prog_4_method_11_code 10 = .ok (.lxor, 1) := by decide +kernel
theorem d2_11 : decode prog_4_method_11_code 11 = .ok (.goto 4, 3) := by decide +kernel
theorem d2_14 : decode prog_4_method_11_code 14 = .ok (.lload_n 0, 1) := by decide +kernel
theorem d2_15 : decode prog_4_method_11_code 15 = .ok (.invokestatic 176, 3) := by decide +kernel
theorem d2_18 : decode prog_4_method_11_code 18 = .ok (.dreturn, 1) := by decide +kernel
theorem pn1 : plainName "com/example/minisum/minisum/DistanceSum" = true := by first | (simp [plainName, overriddenIn]; done) | decide +kernel
theorem efm2 (m : MethodId) (q0 : Int64) : entryFrame m #[(.long q0)] 2 = mkF m 0 #[.val (.long q0), .second] [] := by first | (simp [entryFrame, mkF, argsToLocals, Value.category]; done) | rfl
def Qm2 (Z : State) (q0 : Int64) (h0 : Heap) (n0 : Nat) (v : Option Value) (h : Heap) (L : List Loc) : Prop := v = some (.double (own_unb q0)) ∧ Fr n0 L ∧ (h = h0)
set_option maxRecDepth 65536 in
set_option maxHeartbeats 40000000 in
theorem rmm2 (l : Launch) (Z : State) (a0 : Array Value) (hw : ∀ d ∈ tables_1, d.before a0 Z = true) (ws : List Jvm.Cond) (q0 : Int64) (h0 : Heap) (n0 : Nat) (Z0 : n0 ≤ h0.size) (hok : own_ok (own_ub q0)) :
    MetFree l (⟨"com/example/minisum/minisum/DistanceSum", "unorder", "(J)D"⟩ : MethodName) (head1 (Jvm.Cond.code (⟨"com/example/minisum/minisum/DistanceSum", "unorder", "(J)D"⟩ : MethodName) prog_4_method_11_code 2 (some .double) :: ws) ({ frames := 1, cells := 0, slots := 0, locals := 15 } : Room)) (fun a U => a = #[(.long q0)] ∧ Z.Warmed39 U.vm ∧ U.heap = h0) (fun _ _ _ _ _ => True) (fun _ U o U' => ∃ v L, o = .returned v ∧ Qm2 Z q0 h0 n0 v U'.heap L ∧ FrameEnd U o U' L ({ frames := 1, cells := 0, slots := 0, locals := 15 } : Room).cells ({ frames := 1, cells := 0, slots := 0, locals := 15 } : Room).slots) := by
  refine MetFree.of_bodySF (plainFor_of_name pn1) hisR ?_
  intro p e s m args below meth c s₁ Bd hml0 hP hK
  obtain ⟨rfl, hZ, hh⟩ := hP
  have hx := Bd.exec
  have hby := Bd.bytes
  have hml : c.maxLocals = 2 := hml0
  have hown : s.vm.findClass "com/example/minisum/minisum/DistanceSum" = some m.cls := findClass_of_methodNamed Bd.named
  have hnm := (name_of_methodNamed Bd.named Bd.method).1
  have X0 : Stand p l e ({ frames := 1, cells := 0, slots := 0, locals := 15 } : Room) s m #[(.long q0)] below meth c s₁ [] 0 0 := Stand.of_body Bd
  have e0 : s₁.heap = h0 := by rw [← hh, Bd.state]; rfl
  have N0 := Fr.nil n0
  have pre0 : ∀ t, Steps p.tables e below (s₁.setTop (mkF m 0 #[.val (.long q0), .second] [])) t → Steps p.tables e below (s₁.setTop (entryFrame m #[(.long q0)] 2)) t := fun t k => castTop (efm2 m q0) k
  have pre101 : ∀ t, Steps p.tables e below (s₁.setTop (mkF m 3 #[.val (.long q0), .second] [(.int (lcmpW q0 (0 : Int64)))])) t → Steps p.tables e below (s₁.setTop (mkF m 0 #[.val (.long q0), .second] [])) t := by
    intro t kt
    show own_S p e below s₁ m 0 #[.val (.long q0), .second] [] _
    refine XS.lloadN X0.here hx rfl (hb hby d2_0) rfl ?_
    show own_S p e below s₁ m 1 #[.val (.long q0), .second] [(.long q0)] _
    refine XS.lconst X0.here hx rfl (hb hby d2_1) ?_
    show own_S p e below s₁ m 2 #[.val (.long q0), .second] [(.long (0 : Int64)), (.long q0)] _
    refine XS.lcmp X0.here hx rfl (hb hby d2_2) rfl ?_
    exact kt
  by_cases ha : (lcmpW q0 (0 : Int64)) < (0 : Int32)
  · skip
    obtain ⟨vm102, X102, st102⟩ := X0.longBitsToDouble hx hown (mvT hZ (own_w hw 9 rfl)) (mvT hZ (own_w hw 12 rfl)) (mvT hZ (own_w hw 10 rfl)) (mvT hZ (own_w hw 11 rfl)) (g := (mkF m 15 #[.val (.long q0), .second] [(.long (q0 ^^^ (9223372036854775807 : Int64)))])) rfl (by rw [hml]; rfl) (rest := []) (by have h := hok; unfold own_ub at h; rw [if_pos ha] at h; exact h) rfl (hb hby d2_15) (by decide) (by show 2 * 0 + 0 + (nativeFrameWords "java/lang/Double" "longBitsToDouble" 2 + 11) ≤ _; decide +kernel)
    have e102 : (s₁.setVm vm102).heap = h0 := e0
    obtain ⟨fs, hr, hrun, hended, hW, hsame⟩ := X102.leave (v := some (.double ((q0 ^^^ (9223372036854775807 : Int64)).toUInt64))) (fun h => by rw [Bd.returns] at h; cases h)
    refine ⟨_, _, pre0 _ (pre101 _ ?_), hrun, hended, _, _, rfl, ?_, ⟨_, rfl⟩, hW, hsame.mono (by decide) (by decide)⟩
    · show own_S p e below s₁ m 3 #[.val (.long q0), .second] [(.int (lcmpW q0 (0 : Int64)))] _
      refine XS.ifNo X0.here hx rfl (hb hby d2_3) rfl ((if0 _ _).trans (tlt (ha : (lcmpW q0 (0 : Int64)) < (0 : Int32))).2.1) ?_
      show own_S p e below s₁ m 6 #[.val (.long q0), .second] [] _
      refine XS.lloadN X0.here hx rfl (hb hby d2_6) rfl ?_
      show own_S p e below s₁ m 7 #[.val (.long q0), .second] [(.long q0)] _
      refine X0.ldc2Long hx hown (mvT hZ (own_w hw 22 rfl)) (g := (mkF m 7 #[.val (.long q0), .second] [(.long q0)])) rfl (hb hby d2_7) _ ?_
      show own_S p e below s₁ m 10 #[.val (.long q0), .second] [(.long (9223372036854775807 : Int64)), (.long q0)] _
      refine XS.lxor X0.here hx rfl (hb hby d2_10) rfl ?_
      show own_S p e below s₁ m 11 #[.val (.long q0), .second] [(.long (q0 ^^^ (9223372036854775807 : Int64)))] _
      refine XS.goto X0.here hx rfl (pc0 := 11) (pc' := 15) rfl (hb hby d2_11) (by decide) (by decide) ?_
      show own_S p e below s₁ m 15 #[.val (.long q0), .second] [(.long (q0 ^^^ (9223372036854775807 : Int64)))] _
      refine st102 _ ?_
      show own_S p e below (s₁.setVm vm102) m 18 #[.val (.long q0), .second] [(.double ((q0 ^^^ (9223372036854775807 : Int64)).toUInt64))] _
      exact retOut X102 hx Bd.returns rfl (Or.inr (Or.inr (Or.inl ⟨rfl, rfl, _, rfl⟩))) (hb hby d2_18) hr
    · show Qm2 Z q0 h0 n0 _ (s₁.setVm vm102).heap _
      rw [e102]
      exact ⟨(by simp [own_unb, own_ub, ha]), N0, rfl⟩
  · skip
    obtain ⟨vm103, X103, st103⟩ := X0.longBitsToDouble hx hown (mvT hZ (own_w hw 9 rfl)) (mvT hZ (own_w hw 12 rfl)) (mvT hZ (own_w hw 10 rfl)) (mvT hZ (own_w hw 11 rfl)) (g := (mkF m 15 #[.val (.long q0), .second] [(.long q0)])) rfl (by rw [hml]; rfl) (rest := []) (by have h := hok; unfold own_ub at h; rw [if_neg ha] at h; exact h) rfl (hb hby d2_15) (by decide) (by show 2 * 0 + 0 + (nativeFrameWords "java/lang/Double" "longBitsToDouble" 2 + 11) ≤ _; decide +kernel)
    have e103 : (s₁.setVm vm103).heap = h0 := e0
    obtain ⟨fs, hr, hrun, hended, hW, hsame⟩ := X103.leave (v := some (.double (q0.toUInt64))) (fun h => by rw [Bd.returns] at h; cases h)
    refine ⟨_, _, pre0 _ (pre101 _ ?_), hrun, hended, _, _, rfl, ?_, ⟨_, rfl⟩, hW, hsame.mono (by decide) (by decide)⟩
    · show own_S p e below s₁ m 3 #[.val (.long q0), .second] [(.int (lcmpW q0 (0 : Int64)))] _
      refine XS.ifYes X0.here hx rfl (pc0 := 3) (pc' := 14) rfl (hb hby d2_3) rfl ((if0 _ _).trans (flt (ha : ¬ ((lcmpW q0 (0 : Int64)) < (0 : Int32)))).2.1) (by decide) (by decide) ?_
      show own_S p e below s₁ m 14 #[.val (.long q0), .second] [] _
      refine XS.lloadN X0.here hx rfl (hb hby d2_14) rfl ?_
      show own_S p e below s₁ m 15 #[.val (.long q0), .second] [(.long q0)] _
      refine st103 _ ?_
      show own_S p e below (s₁.setVm vm103) m 18 #[.val (.long q0), .second] [(.double (q0.toUInt64))] _
      exact retOut X103 hx Bd.returns rfl (Or.inr (Or.inr (Or.inl ⟨rfl, rfl, _, rfl⟩))) (hb hby d2_18) hr
    · show Qm2 Z q0 h0 n0 _ (s₁.setVm vm103).heap _
      rw [e103]
      exact ⟨(by simp [own_unb, own_ub, ha]), N0, rfl⟩
theorem d3_0 : decode prog_4_method_10_code 0 = .ok (.dload_n 0, 1) := by decide +kernel
theorem d3_1 : decode prog_4_method_10_code 1 = .ok (.invokestatic 168, 3) := by decide +kernel
theorem d3_4 : decode prog_4_method_10_code 4 = .ok (.lstore_n 2, 1) := by decide +kernel
theorem d3_5 : decode prog_4_method_10_code 5 = .ok (.lload_n 2, 1) := by decide +kernel
theorem d3_6 : decode prog_4_method_10_code 6 = .ok (.lconst 0, 1) := by decide +kernel
theorem d3_7 : decode prog_4_method_10_code 7 = .ok (.lcmp, 1) := by decide +kernel
theorem d3_8 : decode prog_4_method_10_code 8 = .ok (.ifCond .ge 11, 3) := by decide +kernel
theorem d3_11 : decode prog_4_method_10_code 11 = .ok (.lload_n 2, 1) := by decide +kernel
theorem d3_12 : decode prog_4_method_10_code 12 = .ok (.ldc2_w 174, 3) := by decide +kernel
theorem d3_15 : decode prog_4_method_10_code 15 = .ok (.lxor, 1) := by decide +kernel
theorem d3_16 : decode prog_4_method_10_code 16 = .ok (.goto 4, 3) := by decide +kernel
theorem d3_19 : decode prog_4_method_10_code 19 = .ok (.lload_n 2, 1) := by decide +kernel
theorem d3_20 : decode prog_4_method_10_code 20 = .ok (.lreturn, 1) := by decide +kernel
theorem efm3 (m : MethodId) (d0 : UInt64) : entryFrame m #[(.double d0)] 4 = mkF m 0 #[.val (.double d0), .second, .unset, .unset] [] := by first | (simp [entryFrame, mkF, argsToLocals, Value.category]; done) | rfl
def Qm3 (Z : State) (d0 : UInt64) (h0 : Heap) (n0 : Nat) (v : Option Value) (h : Heap) (L : List Loc) : Prop := v = some (.long (own_ord d0)) ∧ Fr n0 L ∧ (h = h0)
set_option maxRecDepth 65536 in
set_option maxHeartbeats 40000000 in
theorem rmm3 (l : Launch) (Z : State) (a0 : Array Value) (hw : ∀ d ∈ tables_1, d.before a0 Z = true) (ws : List Jvm.Cond) (d0 : UInt64) (h0 : Heap) (n0 : Nat) (Z0 : n0 ≤ h0.size)  :
    MetFree l (⟨"com/example/minisum/minisum/DistanceSum", "order", "(D)J"⟩ : MethodName) (head1 (Jvm.Cond.code (⟨"com/example/minisum/minisum/DistanceSum", "order", "(D)J"⟩ : MethodName) prog_4_method_10_code 4 (some .long) :: ws) ({ frames := 1, cells := 0, slots := 0, locals := 15 } : Room)) (fun a U => a = #[(.double d0)] ∧ Z.Warmed39 U.vm ∧ U.heap = h0) (fun _ _ _ _ _ => True) (fun _ U o U' => ∃ v L, o = .returned v ∧ Qm3 Z d0 h0 n0 v U'.heap L ∧ FrameEnd U o U' L ({ frames := 1, cells := 0, slots := 0, locals := 15 } : Room).cells ({ frames := 1, cells := 0, slots := 0, locals := 15 } : Room).slots) := by
  refine MetFree.of_bodySF (plainFor_of_name pn1) hisR ?_
  intro p e s m args below meth c s₁ Bd hml0 hP hK
  obtain ⟨rfl, hZ, hh⟩ := hP
  have hx := Bd.exec
  have hby := Bd.bytes
  have hml : c.maxLocals = 4 := hml0
  have hown : s.vm.findClass "com/example/minisum/minisum/DistanceSum" = some m.cls := findClass_of_methodNamed Bd.named
  have hnm := (name_of_methodNamed Bd.named Bd.method).1
  have X0 : Stand p l e ({ frames := 1, cells := 0, slots := 0, locals := 15 } : Room) s m #[(.double d0)] below meth c s₁ [] 0 0 := Stand.of_body Bd
  have e0 : s₁.heap = h0 := by rw [← hh, Bd.state]; rfl
  have N0 := Fr.nil n0
  have pre0 : ∀ t, Steps p.tables e below (s₁.setTop (mkF m 0 #[.val (.double d0), .second, .unset, .unset] [])) t → Steps p.tables e below (s₁.setTop (entryFrame m #[(.double d0)] 4)) t := fun t k => castTop (efm3 m d0) k
  obtain ⟨vm101, X101, st101⟩ := X0.doubleToRawLongBits hx hown (mvT hZ (own_w hw 16 rfl)) (mvT hZ (own_w hw 18 rfl)) (mvT hZ (own_w hw 17 rfl)) (mvT hZ (own_w hw 11 rfl)) (g := (mkF m 1 #[.val (.double d0), .second, .unset, .unset] [(.double d0)])) rfl (by rw [hml]; rfl) (rest := []) rfl (hb hby d3_1) (by decide) (by show 2 * 0 + 0 + (nativeFrameWords "java/lang/Double" "doubleToRawLongBits" 2 + 11) ≤ _; decide +kernel)
  have e101 : (s₁.setVm vm101).heap = h0 := e0
  have pre102 : ∀ t, Steps p.tables e below ((s₁.setVm vm101).setTop (mkF m 8 #[.val (.double d0), .second, .val (.long (d0.toInt64)), .second] [(.int (lcmpW (d0.toInt64) (0 : Int64)))])) t → Steps p.tables e below (s₁.setTop (mkF m 0 #[.val (.double d0), .second, .unset, .unset] [])) t := by
    intro t kt
    show own_S p e below s₁ m 0 #[.val (.double d0), .second, .unset, .unset] [] _
    refine XS.dloadN X0.here hx rfl (hb hby d3_0) rfl ?_
    show own_S p e below s₁ m 1 #[.val (.double d0), .second, .unset, .unset] [(.double d0)] _
    refine st101 _ ?_
    show own_S p e below (s₁.setVm vm101) m 4 #[.val (.double d0), .second, .unset, .unset] [(.long (d0.toInt64))] _
    refine XS.lstoreN X101.here hx rfl (hb hby d3_4) rfl (l' := #[.val (.double d0), .second, .val (.long (d0.toInt64)), .second]) rfl ?_
    show own_S p e below (s₁.setVm vm101) m 5 #[.val (.double d0), .second, .val (.long (d0.toInt64)), .second] [] _
    refine XS.lloadN X101.here hx rfl (hb hby d3_5) rfl ?_
    show own_S p e below (s₁.setVm vm101) m 6 #[.val (.double d0), .second, .val (.long (d0.toInt64)), .second] [(.long (d0.toInt64))] _
    refine XS.lconst X101.here hx rfl (hb hby d3_6) ?_
    show own_S p e below (s₁.setVm vm101) m 7 #[.val (.double d0), .second, .val (.long (d0.toInt64)), .second] [(.long (0 : Int64)), (.long (d0.toInt64))] _
    refine XS.lcmp X101.here hx rfl (hb hby d3_7) rfl ?_
    exact kt
  by_cases ha : (lcmpW (d0.toInt64) (0 : Int64)) < (0 : Int32)
  · skip
    obtain ⟨fs, hr, hrun, hended, hW, hsame⟩ := X101.leave (v := some (.long ((d0.toInt64) ^^^ (9223372036854775807 : Int64)))) (fun h => by rw [Bd.returns] at h; cases h)
    refine ⟨_, _, pre0 _ (pre102 _ ?_), hrun, hended, _, _, rfl, ?_, ⟨_, rfl⟩, hW, hsame.mono (by decide) (by decide)⟩
    · show own_S p e below (s₁.setVm vm101) m 8 #[.val (.double d0), .second, .val (.long (d0.toInt64)), .second] [(.int (lcmpW (d0.toInt64) (0 : Int64)))] _
      refine XS.ifNo X101.here hx rfl (hb hby d3_8) rfl ((if0 _ _).trans (tlt (ha : (lcmpW (d0.toInt64) (0 : Int64)) < (0 : Int32))).2.1) ?_
      show own_S p e below (s₁.setVm vm101) m 11 #[.val (.double d0), .second, .val (.long (d0.toInt64)), .second] [] _
      refine XS.lloadN X101.here hx rfl (hb hby d3_11) rfl ?_
      show own_S p e below (s₁.setVm vm101) m 12 #[.val (.double d0), .second, .val (.long (d0.toInt64)), .second] [(.long (d0.toInt64))] _
      refine X101.ldc2Long hx hown (mvT hZ (own_w hw 22 rfl)) (g := (mkF m 12 #[.val (.double d0), .second, .val (.long (d0.toInt64)), .second] [(.long (d0.toInt64))])) rfl (hb hby d3_12) _ ?_
      show own_S p e below (s₁.setVm vm101) m 15 #[.val (.double d0), .second, .val (.long (d0.toInt64)), .second] [(.long (9223372036854775807 : Int64)), (.long (d0.toInt64))] _
      refine XS.lxor X101.here hx rfl (hb hby d3_15) rfl ?_
      show own_S p e below (s₁.setVm vm101) m 16 #[.val (.double d0), .second, .val (.long (d0.toInt64)), .second] [(.long ((d0.toInt64) ^^^ (9223372036854775807 : Int64)))] _
      refine XS.goto X101.here hx rfl (pc0 := 16) (pc' := 20) rfl (hb hby d3_16) (by decide) (by decide) ?_
      show own_S p e below (s₁.setVm vm101) m 20 #[.val (.double d0), .second, .val (.long (d0.toInt64)), .second] [(.long ((d0.toInt64) ^^^ (9223372036854775807 : Int64)))] _
      exact retOut X101 hx Bd.returns rfl (Or.inr (Or.inl ⟨rfl, rfl, _, rfl⟩)) (hb hby d3_20) hr
    · show Qm3 Z d0 h0 n0 _ (s₁.setVm vm101).heap _
      rw [e101]
      exact ⟨(by simp [own_ord, own_ub, ha]), N0, rfl⟩
  · skip
    obtain ⟨fs, hr, hrun, hended, hW, hsame⟩ := X101.leave (v := some (.long (d0.toInt64))) (fun h => by rw [Bd.returns] at h; cases h)
    refine ⟨_, _, pre0 _ (pre102 _ ?_), hrun, hended, _, _, rfl, ?_, ⟨_, rfl⟩, hW, hsame.mono (by decide) (by decide)⟩
    · show own_S p e below (s₁.setVm vm101) m 8 #[.val (.double d0), .second, .val (.long (d0.toInt64)), .second] [(.int (lcmpW (d0.toInt64) (0 : Int64)))] _
      refine XS.ifYes X101.here hx rfl (pc0 := 8) (pc' := 19) rfl (hb hby d3_8) rfl ((if0 _ _).trans (flt (ha : ¬ ((lcmpW (d0.toInt64) (0 : Int64)) < (0 : Int32)))).2.1) (by decide) (by decide) ?_
      show own_S p e below (s₁.setVm vm101) m 19 #[.val (.double d0), .second, .val (.long (d0.toInt64)), .second] [] _
      refine XS.lloadN X101.here hx rfl (hb hby d3_19) rfl ?_
      show own_S p e below (s₁.setVm vm101) m 20 #[.val (.double d0), .second, .val (.long (d0.toInt64)), .second] [(.long (d0.toInt64))] _
      exact retOut X101 hx Bd.returns rfl (Or.inr (Or.inl ⟨rfl, rfl, _, rfl⟩)) (hb hby d3_20) hr
    · show Qm3 Z d0 h0 n0 _ (s₁.setVm vm101).heap _
      rw [e101]
      exact ⟨(by simp [own_ord, own_ub, ha]), N0, rfl⟩
theorem d5_0 : decode method_3_code 0 = .ok (.dload_n 0, 1) := by decide +kernel
theorem d5_1 : decode method_3_code 1 = .ok (.dconst 0, 1) := by decide +kernel
theorem d5_2 : decode method_3_code 2 = .ok (.dcmp .l, 1) := by decide +kernel
theorem d5_3 : decode method_3_code 3 = .ok (.ifCond .ne 15, 3) := by decide +kernel
theorem d5_6 : decode method_3_code 6 = .ok (.dconst 1, 1) := by decide +kernel
theorem d5_7 : decode method_3_code 7 = .ok (.dload_n 0, 1) := by decide +kernel
theorem d5_8 : decode method_3_code 8 = .ok (.ddiv, 1) := by decide +kernel
theorem d5_9 : decode method_3_code 9 = .ok (.dconst 0, 1) := by decide +kernel
theorem d5_10 : decode method_3_code 10 = .ok (.dcmp .g, 1) := by decide +kernel
theorem d5_11 : decode method_3_code 11 = .ok (.ifCond .ge 7, 3) := by decide +kernel
theorem d5_14 : decode method_3_code 14 = .ok (.iconst 1, 1) := by decide +kernel
theorem d5_15 : decode method_3_code 15 = .ok (.goto 4, 3) := by decide +kernel
theorem d5_18 : decode method_3_code 18 = .ok (.iconst 0, 1) := by decide +kernel
theorem d5_19 : decode method_3_code 19 = .ok (.ireturn, 1) := by decide +kernel
theorem efm5 (m : MethodId) (d0 : UInt64) : entryFrame m #[(.double d0)] 2 = mkF m 0 #[.val (.double d0), .second] [] := by first | (simp [entryFrame, mkF, argsToLocals, Value.category]; done) | rfl
def Qm5 (Z : State) (d0 : UInt64) (h0 : Heap) (n0 : Nat) (v : Option Value) (h : Heap) (L : List Loc) : Prop := v = some (.int (own_nz d0)) ∧ Fr n0 L ∧ (h = h0)
set_option maxRecDepth 65536 in
set_option maxHeartbeats 40000000 in
theorem rmm5 (l : Launch) (Z : State) (a0 : Array Value) (hw : ∀ d ∈ tables_1, d.before a0 Z = true) (ws : List Jvm.Cond) (d0 : UInt64) (h0 : Heap) (n0 : Nat) (Z0 : n0 ≤ h0.size)  :
    MetFree l (⟨"com/example/minisum/minisum/DistanceSumOrderPinLaw", "negativeZero", "(D)Z"⟩ : MethodName) (head1 (Jvm.Cond.code (⟨"com/example/minisum/minisum/DistanceSumOrderPinLaw", "negativeZero", "(D)Z"⟩ : MethodName) method_3_code 2 (some .boolean) :: ws) ({ frames := 0, cells := 0, slots := 0, locals := 0 } : Room)) (fun a U => a = #[(.double d0)] ∧ Z.Warmed39 U.vm ∧ U.heap = h0) (fun _ _ _ _ _ => True) (fun _ U o U' => ∃ v L, o = .returned v ∧ Qm5 Z d0 h0 n0 v U'.heap L ∧ FrameEnd U o U' L ({ frames := 0, cells := 0, slots := 0, locals := 0 } : Room).cells ({ frames := 0, cells := 0, slots := 0, locals := 0 } : Room).slots) := by
  refine MetFree.of_bodySF (plainFor_of_name pn0) hisR ?_
  intro p e s m args below meth c s₁ Bd hml0 hP hK
  obtain ⟨rfl, hZ, hh⟩ := hP
  have hx := Bd.exec
  have hby := Bd.bytes
  have hml : c.maxLocals = 2 := hml0
  have hown : s.vm.findClass "com/example/minisum/minisum/DistanceSumOrderPinLaw" = some m.cls := findClass_of_methodNamed Bd.named
  have hnm := (name_of_methodNamed Bd.named Bd.method).1
  have X0 : Stand p l e ({ frames := 0, cells := 0, slots := 0, locals := 0 } : Room) s m #[(.double d0)] below meth c s₁ [] 0 0 := Stand.of_body Bd
  have e0 : s₁.heap = h0 := by rw [← hh, Bd.state]; rfl
  have N0 := Fr.nil n0
  have pre0 : ∀ t, Steps p.tables e below (s₁.setTop (mkF m 0 #[.val (.double d0), .second] [])) t → Steps p.tables e below (s₁.setTop (entryFrame m #[(.double d0)] 2)) t := fun t k => castTop (efm5 m d0) k
  have pre101 : ∀ t, Steps p.tables e below (s₁.setTop (mkF m 3 #[.val (.double d0), .second] [(.int (cmpValue (FP.dcmp d0 (0 : UInt64)) .l))])) t → Steps p.tables e below (s₁.setTop (mkF m 0 #[.val (.double d0), .second] [])) t := by
    intro t kt
    show own_S p e below s₁ m 0 #[.val (.double d0), .second] [] _
    refine XS.dloadN X0.here hx rfl (hb hby d5_0) rfl ?_
    show own_S p e below s₁ m 1 #[.val (.double d0), .second] [(.double d0)] _
    refine XS.dconst0 X0.here hx rfl (v := 0) (hb hby d5_1) rfl ?_
    show own_S p e below s₁ m 2 #[.val (.double d0), .second] [(.double 0), (.double d0)] _
    refine XS.dcmpS X0.here hx rfl (v := (cmpValue (FP.dcmp d0 (0 : UInt64)) .l)) (hb hby d5_2) rfl rfl ?_
    exact kt
  by_cases ha : (cmpValue (FP.dcmp d0 (0 : UInt64)) .l) = (0 : Int32)
  · skip
    have pre102 : ∀ t, Steps p.tables e below (s₁.setTop (mkF m 11 #[.val (.double d0), .second] [(.int (cmpValue (FP.dcmp (FP.ddiv (4607182418800017408 : UInt64) d0) (0 : UInt64)) .g))])) t → Steps p.tables e below (s₁.setTop (mkF m 0 #[.val (.double d0), .second] [])) t := by
      intro t kt
      refine pre101 _ ?_
      show own_S p e below s₁ m 3 #[.val (.double d0), .second] [(.int (cmpValue (FP.dcmp d0 (0 : UInt64)) .l))] _
      refine XS.ifNo X0.here hx rfl (hb hby d5_3) rfl ((if0 _ _).trans (teq (ha : (cmpValue (FP.dcmp d0 (0 : UInt64)) .l) = (0 : Int32))).2) ?_
      show own_S p e below s₁ m 6 #[.val (.double d0), .second] [] _
      refine XS.dconst1 X0.here hx rfl (v := 4607182418800017408) (hb hby d5_6) rfl ?_
      show own_S p e below s₁ m 7 #[.val (.double d0), .second] [(.double 4607182418800017408)] _
      refine XS.dloadN X0.here hx rfl (hb hby d5_7) rfl ?_
      show own_S p e below s₁ m 8 #[.val (.double d0), .second] [(.double d0), (.double 4607182418800017408)] _
      refine XS.ddivS X0.here hx rfl (v := (FP.ddiv (4607182418800017408 : UInt64) d0)) (hb hby d5_8) rfl (own_nn1 ha) rfl ?_
      show own_S p e below s₁ m 9 #[.val (.double d0), .second] [(.double (FP.ddiv (4607182418800017408 : UInt64) d0))] _
      refine XS.dconst0 X0.here hx rfl (v := 0) (hb hby d5_9) rfl ?_
      show own_S p e below s₁ m 10 #[.val (.double d0), .second] [(.double 0), (.double (FP.ddiv (4607182418800017408 : UInt64) d0))] _
      refine XS.dcmpS X0.here hx rfl (v := (cmpValue (FP.dcmp (FP.ddiv (4607182418800017408 : UInt64) d0) (0 : UInt64)) .g)) (hb hby d5_10) rfl rfl ?_
      exact kt
    by_cases hb_ : (cmpValue (FP.dcmp (FP.ddiv (4607182418800017408 : UInt64) d0) (0 : UInt64)) .g) < (0 : Int32)
    · skip
      obtain ⟨fs, hr, hrun, hended, hW, hsame⟩ := X0.leave (v := some (.int 1)) (fun h => by rw [Bd.returns] at h; cases h)
      refine ⟨_, _, pre0 _ (pre102 _ ?_), hrun, hended, _, _, rfl, ?_, ⟨_, rfl⟩, hW, hsame.mono (by decide) (by decide)⟩
      · show own_S p e below s₁ m 11 #[.val (.double d0), .second] [(.int (cmpValue (FP.dcmp (FP.ddiv (4607182418800017408 : UInt64) d0) (0 : UInt64)) .g))] _
        refine XS.ifNo X0.here hx rfl (hb hby d5_11) rfl ((if0 _ _).trans (tlt (hb_ : (cmpValue (FP.dcmp (FP.ddiv (4607182418800017408 : UInt64) d0) (0 : UInt64)) .g) < (0 : Int32))).2.1) ?_
        show own_S p e below s₁ m 14 #[.val (.double d0), .second] [] _
        refine XS.iconst X0.here hx rfl (hb hby d5_14) ?_
        show own_S p e below s₁ m 15 #[.val (.double d0), .second] [(.int 1)] _
        refine XS.goto X0.here hx rfl (pc0 := 15) (pc' := 19) rfl (hb hby d5_15) (by decide) (by decide) ?_
        show own_S p e below s₁ m 19 #[.val (.double d0), .second] [(.int 1)] _
        exact retN X0 hx (t := .boolean) Bd.returns (by simp) (hb hby d5_19) hr
      · show Qm5 Z d0 h0 n0 _ s₁.heap _
        rw [e0]
        exact ⟨(by simp [own_nz, *]), N0, rfl⟩
    · skip
      obtain ⟨fs, hr, hrun, hended, hW, hsame⟩ := X0.leave (v := some (.int 0)) (fun h => by rw [Bd.returns] at h; cases h)
      refine ⟨_, _, pre0 _ (pre102 _ ?_), hrun, hended, _, _, rfl, ?_, ⟨_, rfl⟩, hW, hsame.mono (by decide) (by decide)⟩
      · show own_S p e below s₁ m 11 #[.val (.double d0), .second] [(.int (cmpValue (FP.dcmp (FP.ddiv (4607182418800017408 : UInt64) d0) (0 : UInt64)) .g))] _
        refine XS.ifYes X0.here hx rfl (pc0 := 11) (pc' := 18) rfl (hb hby d5_11) rfl ((if0 _ _).trans (flt (hb_ : ¬ ((cmpValue (FP.dcmp (FP.ddiv (4607182418800017408 : UInt64) d0) (0 : UInt64)) .g) < (0 : Int32)))).2.1) (by decide) (by decide) ?_
        show own_S p e below s₁ m 18 #[.val (.double d0), .second] [] _
        refine XS.iconst X0.here hx rfl (hb hby d5_18) ?_
        show own_S p e below s₁ m 19 #[.val (.double d0), .second] [(.int 0)] _
        exact retN X0 hx (t := .boolean) Bd.returns (by simp) (hb hby d5_19) hr
      · show Qm5 Z d0 h0 n0 _ s₁.heap _
        rw [e0]
        exact ⟨(by simp [own_nz, *]), N0, rfl⟩
  · skip
    obtain ⟨fs, hr, hrun, hended, hW, hsame⟩ := X0.leave (v := some (.int 0)) (fun h => by rw [Bd.returns] at h; cases h)
    refine ⟨_, _, pre0 _ (pre101 _ ?_), hrun, hended, _, _, rfl, ?_, ⟨_, rfl⟩, hW, hsame.mono (by decide) (by decide)⟩
    · show own_S p e below s₁ m 3 #[.val (.double d0), .second] [(.int (cmpValue (FP.dcmp d0 (0 : UInt64)) .l))] _
      refine XS.ifYes X0.here hx rfl (pc0 := 3) (pc' := 18) rfl (hb hby d5_3) rfl ((if0 _ _).trans (feq (ha : ¬ ((cmpValue (FP.dcmp d0 (0 : UInt64)) .l) = (0 : Int32)))).2) (by decide) (by decide) ?_
      show own_S p e below s₁ m 18 #[.val (.double d0), .second] [] _
      refine XS.iconst X0.here hx rfl (hb hby d5_18) ?_
      show own_S p e below s₁ m 19 #[.val (.double d0), .second] [(.int 0)] _
      exact retN X0 hx (t := .boolean) Bd.returns (by simp) (hb hby d5_19) hr
    · show Qm5 Z d0 h0 n0 _ s₁.heap _
      rw [e0]
      exact ⟨(by simp [own_nz, *]), N0, rfl⟩
theorem pd0 : parseMethodDescriptor "(D)Z" = some ⟨[.double], some .boolean⟩ := by decide +kernel
theorem d4_0 : decode method_4_code 0 = .ok (.dload_n 0, 1) := by decide +kernel
theorem d4_1 : decode method_4_code 1 = .ok (.dload_n 2, 1) := by decide +kernel
theorem d4_2 : decode method_4_code 2 = .ok (.dcmp .g, 1) := by decide +kernel
theorem d4_3 : decode method_4_code 3 = .ok (.ifCond .lt 23, 3) := by decide +kernel
theorem d4_6 : decode method_4_code 6 = .ok (.dload_n 0, 1) := by decide +kernel
theorem d4_7 : decode method_4_code 7 = .ok (.dload_n 2, 1) := by decide +kernel
theorem d4_8 : decode method_4_code 8 = .ok (.dcmp .l, 1) := by decide +kernel
theorem d4_9 : decode method_4_code 9 = .ok (.ifCond .ne 21, 3) := by decide +kernel
theorem d4_12 : decode method_4_code 12 = .ok (.dload_n 0, 1) := by decide +kernel
theorem d4_13 : decode method_4_code 13 = .ok (.invokestatic 9, 3) := by decide +kernel
theorem d4_16 : decode method_4_code 16 = .ok (.ifCond .eq 14, 3) := by decide +kernel
theorem d4_19 : decode method_4_code 19 = .ok (.dload_n 2, 1) := by decide +kernel
theorem d4_20 : decode method_4_code 20 = .ok (.invokestatic 9, 3) := by decide +kernel
theorem d4_23 : decode method_4_code 23 = .ok (.ifCond .ne 7, 3) := by decide +kernel
theorem d4_26 : decode method_4_code 26 = .ok (.iconst 1, 1) := by decide +kernel
theorem d4_27 : decode method_4_code 27 = .ok (.goto 4, 3) := by decide +kernel
theorem d4_30 : decode method_4_code 30 = .ok (.iconst 0, 1) := by decide +kernel
theorem d4_31 : decode method_4_code 31 = .ok (.ireturn, 1) := by decide +kernel
theorem efm4 (m : MethodId) (d0 : UInt64) (d1 : UInt64) : entryFrame m #[(.double d0), (.double d1)] 4 = mkF m 0 #[.val (.double d0), .second, .val (.double d1), .second] [] := by first | (simp [entryFrame, mkF, argsToLocals, Value.category]; done) | rfl
def Qm4 (Z : State) (d0 : UInt64) (d1 : UInt64) (h0 : Heap) (n0 : Nat) (v : Option Value) (h : Heap) (L : List Loc) : Prop := v = some (.int (own_bef d0 d1)) ∧ Fr n0 L ∧ (h = h0)
set_option maxRecDepth 65536 in
set_option maxHeartbeats 40000000 in
theorem rmm4 (l : Launch) (Z : State) (a0 : Array Value) (hw : ∀ d ∈ tables_1, d.before a0 Z = true) (ws : List Jvm.Cond) (d0 : UInt64) (d1 : UInt64) (h0 : Heap) (n0 : Nat) (Z0 : n0 ≤ h0.size)  :
    MetFree l (⟨"com/example/minisum/minisum/DistanceSumOrderPinLaw", "before", "(DD)Z"⟩ : MethodName) (head1 (Jvm.Cond.code (⟨"com/example/minisum/minisum/DistanceSumOrderPinLaw", "before", "(DD)Z"⟩ : MethodName) method_4_code 4 (some .boolean) :: ws) ({ frames := 1, cells := 0, slots := 0, locals := 13 } : Room)) (fun a U => a = #[(.double d0), (.double d1)] ∧ Z.Warmed39 U.vm ∧ U.heap = h0) (fun _ _ _ _ _ => True) (fun _ U o U' => ∃ v L, o = .returned v ∧ Qm4 Z d0 d1 h0 n0 v U'.heap L ∧ FrameEnd U o U' L ({ frames := 1, cells := 0, slots := 0, locals := 13 } : Room).cells ({ frames := 1, cells := 0, slots := 0, locals := 13 } : Room).slots) := by
  refine MetFree.of_bodySF (plainFor_of_name pn0) hisR ?_
  intro p e s m args below meth c s₁ Bd hml0 hP hK
  obtain ⟨rfl, hZ, hh⟩ := hP
  have hx := Bd.exec
  have hby := Bd.bytes
  have hml : c.maxLocals = 4 := hml0
  have hown : s.vm.findClass "com/example/minisum/minisum/DistanceSumOrderPinLaw" = some m.cls := findClass_of_methodNamed Bd.named
  have hnm := (name_of_methodNamed Bd.named Bd.method).1
  have X0 : Stand p l e ({ frames := 1, cells := 0, slots := 0, locals := 13 } : Room) s m #[(.double d0), (.double d1)] below meth c s₁ [] 0 0 := Stand.of_body Bd
  have e0 : s₁.heap = h0 := by rw [← hh, Bd.state]; rfl
  have N0 := Fr.nil n0
  have pre0 : ∀ t, Steps p.tables e below (s₁.setTop (mkF m 0 #[.val (.double d0), .second, .val (.double d1), .second] [])) t → Steps p.tables e below (s₁.setTop (entryFrame m #[(.double d0), (.double d1)] 4)) t := fun t k => castTop (efm4 m d0 d1) k
  have pre101 : ∀ t, Steps p.tables e below (s₁.setTop (mkF m 3 #[.val (.double d0), .second, .val (.double d1), .second] [(.int (cmpValue (FP.dcmp d0 d1) .g))])) t → Steps p.tables e below (s₁.setTop (mkF m 0 #[.val (.double d0), .second, .val (.double d1), .second] [])) t := by
    intro t kt
    show own_S p e below s₁ m 0 #[.val (.double d0), .second, .val (.double d1), .second] [] _
    refine XS.dloadN X0.here hx rfl (hb hby d4_0) rfl ?_
    show own_S p e below s₁ m 1 #[.val (.double d0), .second, .val (.double d1), .second] [(.double d0)] _
    refine XS.dloadN X0.here hx rfl (hb hby d4_1) rfl ?_
    show own_S p e below s₁ m 2 #[.val (.double d0), .second, .val (.double d1), .second] [(.double d1), (.double d0)] _
    refine XS.dcmpS X0.here hx rfl (v := (cmpValue (FP.dcmp d0 d1) .g)) (hb hby d4_2) rfl rfl ?_
    exact kt
  by_cases ha : (cmpValue (FP.dcmp d0 d1) .g) < (0 : Int32)
  · skip
    obtain ⟨fs, hr, hrun, hended, hW, hsame⟩ := X0.leave (v := some (.int 1)) (fun h => by rw [Bd.returns] at h; cases h)
    refine ⟨_, _, pre0 _ (pre101 _ ?_), hrun, hended, _, _, rfl, ?_, ⟨_, rfl⟩, hW, hsame.mono (by decide) (by decide)⟩
    · show own_S p e below s₁ m 3 #[.val (.double d0), .second, .val (.double d1), .second] [(.int (cmpValue (FP.dcmp d0 d1) .g))] _
      refine XS.ifYes X0.here hx rfl (pc0 := 3) (pc' := 26) rfl (hb hby d4_3) rfl ((if0 _ _).trans (tlt (ha : (cmpValue (FP.dcmp d0 d1) .g) < (0 : Int32))).1) (by decide) (by decide) ?_
      show own_S p e below s₁ m 26 #[.val (.double d0), .second, .val (.double d1), .second] [] _
      refine XS.iconst X0.here hx rfl (hb hby d4_26) ?_
      show own_S p e below s₁ m 27 #[.val (.double d0), .second, .val (.double d1), .second] [(.int 1)] _
      refine XS.goto X0.here hx rfl (pc0 := 27) (pc' := 31) rfl (hb hby d4_27) (by decide) (by decide) ?_
      show own_S p e below s₁ m 31 #[.val (.double d0), .second, .val (.double d1), .second] [(.int 1)] _
      exact retN X0 hx (t := .boolean) Bd.returns (by simp) (hb hby d4_31) hr
    · show Qm4 Z d0 d1 h0 n0 _ s₁.heap _
      rw [e0]
      exact ⟨(by simp [own_bef, *]), N0, rfl⟩
  · skip
    have pre102 : ∀ t, Steps p.tables e below (s₁.setTop (mkF m 9 #[.val (.double d0), .second, .val (.double d1), .second] [(.int (cmpValue (FP.dcmp d0 d1) .l))])) t → Steps p.tables e below (s₁.setTop (mkF m 0 #[.val (.double d0), .second, .val (.double d1), .second] [])) t := by
      intro t kt
      refine pre101 _ ?_
      show own_S p e below s₁ m 3 #[.val (.double d0), .second, .val (.double d1), .second] [(.int (cmpValue (FP.dcmp d0 d1) .g))] _
      refine XS.ifNo X0.here hx rfl (hb hby d4_3) rfl ((if0 _ _).trans (flt (ha : ¬ ((cmpValue (FP.dcmp d0 d1) .g) < (0 : Int32)))).1) ?_
      show own_S p e below s₁ m 6 #[.val (.double d0), .second, .val (.double d1), .second] [] _
      refine XS.dloadN X0.here hx rfl (hb hby d4_6) rfl ?_
      show own_S p e below s₁ m 7 #[.val (.double d0), .second, .val (.double d1), .second] [(.double d0)] _
      refine XS.dloadN X0.here hx rfl (hb hby d4_7) rfl ?_
      show own_S p e below s₁ m 8 #[.val (.double d0), .second, .val (.double d1), .second] [(.double d1), (.double d0)] _
      refine XS.dcmpS X0.here hx rfl (v := (cmpValue (FP.dcmp d0 d1) .l)) (hb hby d4_8) rfl rfl ?_
      exact kt
    by_cases hb_ : (cmpValue (FP.dcmp d0 d1) .l) = (0 : Int32)
    · skip
      obtain ⟨_, _, ⟨T103, L103, k103, n103⟩, -, X103, ⟨Lc103, hQ103, l103, y103, z103⟩, st103⟩ := Jvm.LawKit.callS X0 hx (y := (⟨"com/example/minisum/minisum/DistanceSumOrderPinLaw", "negativeZero", "(D)Z"⟩ : MethodName)) hown (mvT hZ (own_w hw 23 rfl)) (mvT hZ (own_w hw 24 rfl)) (mvT hZ (own_w hw 2 rfl)) (mvT hZ (own_w hw 25 rfl)) (by decide) (backOf (W := 0) (rmm5 l Z a0 hw [] d0 h0 n0 Z0 ) hZ (own_w hw 25 rfl) (own_w hw 2 rfl) (by decide) (by decide)) (g := (mkF m 13 #[.val (.double d0), .second, .val (.double d1), .second] [(.double d0)])) rfl (by rw [hml]; rfl) (argsL := [(.double d0)]) (rest := []) (lenOf pd0 rfl) rfl (by show 2 * 0 + _ ≤ _; exact Nat.le_of_eq rfl) (hb hby d4_13) (fun _ _ => ⟨rfl, e0, (by decide : 0 + 0 ≤ _), (by decide : 0 + 0 ≤ _)⟩)
      dsimp only [Pt.U, Pt.locs, Pt.cells, Pt.slots] at X103 l103 y103 z103 st103 hQ103
      subst l103 y103 z103
      obtain ⟨rfl, Nq103, P103_0⟩ := hQ103
      have N103 := Fr.app N0 Nq103
      have pre104 : ∀ t, Steps p.tables e below (T103.setTop (mkF m 16 #[.val (.double d0), .second, .val (.double d1), .second] [(.int (own_nz d0))])) t → Steps p.tables e below (s₁.setTop (mkF m 0 #[.val (.double d0), .second, .val (.double d1), .second] [])) t := by
        intro t kt
        refine pre102 _ ?_
        show own_S p e below s₁ m 9 #[.val (.double d0), .second, .val (.double d1), .second] [(.int (cmpValue (FP.dcmp d0 d1) .l))] _
        refine XS.ifNo X0.here hx rfl (hb hby d4_9) rfl ((if0 _ _).trans (teq (hb_ : (cmpValue (FP.dcmp d0 d1) .l) = (0 : Int32))).2) ?_
        show own_S p e below s₁ m 12 #[.val (.double d0), .second, .val (.double d1), .second] [] _
        refine XS.dloadN X0.here hx rfl (hb hby d4_12) rfl ?_
        show own_S p e below s₁ m 13 #[.val (.double d0), .second, .val (.double d1), .second] [(.double d0)] _
        refine st103 _ ?_
        exact kt
      by_cases hc : (own_nz d0) = (0 : Int32)
      · skip
        obtain ⟨fs, hr, hrun, hended, hW, hsame⟩ := X103.leave (v := some (.int 0)) (fun h => by rw [Bd.returns] at h; cases h)
        refine ⟨_, _, pre0 _ (pre104 _ ?_), hrun, hended, _, _, rfl, ?_, ⟨_, rfl⟩, hW, hsame.mono (by decide) (by decide)⟩
        · show own_S p e below T103 m 16 #[.val (.double d0), .second, .val (.double d1), .second] [(.int (own_nz d0))] _
          refine XS.ifYes X103.here hx rfl (pc0 := 16) (pc' := 30) rfl (hb hby d4_16) rfl ((if0 _ _).trans (teq (hc : (own_nz d0) = (0 : Int32))).1) (by decide) (by decide) ?_
          show own_S p e below T103 m 30 #[.val (.double d0), .second, .val (.double d1), .second] [] _
          refine XS.iconst X103.here hx rfl (hb hby d4_30) ?_
          show own_S p e below T103 m 31 #[.val (.double d0), .second, .val (.double d1), .second] [(.int 0)] _
          exact retN X103 hx (t := .boolean) Bd.returns (by simp) (hb hby d4_31) hr
        · show Qm4 Z d0 d1 h0 n0 _ T103.heap _
          rw [P103_0]
          exact ⟨(by simp [own_bef, *]), N103, rfl⟩
      · skip
        obtain ⟨_, _, ⟨T105, L105, k105, n105⟩, -, X105, ⟨Lc105, hQ105, l105, y105, z105⟩, st105⟩ := Jvm.LawKit.callS X103 hx (y := (⟨"com/example/minisum/minisum/DistanceSumOrderPinLaw", "negativeZero", "(D)Z"⟩ : MethodName)) hown (mvT hZ (own_w hw 23 rfl)) (mvT hZ (own_w hw 24 rfl)) (mvT hZ (own_w hw 2 rfl)) (mvT hZ (own_w hw 25 rfl)) (by decide) (backOf (W := 0) (rmm5 l Z a0 hw [] d1 h0 n0 Z0 ) hZ (own_w hw 25 rfl) (own_w hw 2 rfl) (by decide) (by decide)) (g := (mkF m 20 #[.val (.double d0), .second, .val (.double d1), .second] [(.double d1)])) rfl (by rw [hml]; rfl) (argsL := [(.double d1)]) (rest := []) (lenOf pd0 rfl) rfl (by show 2 * 0 + _ ≤ _; exact Nat.le_of_eq rfl) (hb hby d4_20) (fun _ _ => ⟨rfl, P103_0, (by decide : 0 + 0 ≤ _), (by decide : 0 + 0 ≤ _)⟩)
        dsimp only [Pt.U, Pt.locs, Pt.cells, Pt.slots] at X105 l105 y105 z105 st105 hQ105
        subst l105 y105 z105
        obtain ⟨rfl, Nq105, P105_0⟩ := hQ105
        have N105 := Fr.app N103 Nq105
        have pre106 : ∀ t, Steps p.tables e below (T105.setTop (mkF m 23 #[.val (.double d0), .second, .val (.double d1), .second] [(.int (own_nz d1))])) t → Steps p.tables e below (s₁.setTop (mkF m 0 #[.val (.double d0), .second, .val (.double d1), .second] [])) t := by
          intro t kt
          refine pre104 _ ?_
          show own_S p e below T103 m 16 #[.val (.double d0), .second, .val (.double d1), .second] [(.int (own_nz d0))] _
          refine XS.ifNo X103.here hx rfl (hb hby d4_16) rfl ((if0 _ _).trans (feq (hc : ¬ ((own_nz d0) = (0 : Int32)))).1) ?_
          show own_S p e below T103 m 19 #[.val (.double d0), .second, .val (.double d1), .second] [] _
          refine XS.dloadN X103.here hx rfl (hb hby d4_19) rfl ?_
          show own_S p e below T103 m 20 #[.val (.double d0), .second, .val (.double d1), .second] [(.double d1)] _
          refine st105 _ ?_
          exact kt
        by_cases hd : (own_nz d1) = (0 : Int32)
        · skip
          obtain ⟨fs, hr, hrun, hended, hW, hsame⟩ := X105.leave (v := some (.int 1)) (fun h => by rw [Bd.returns] at h; cases h)
          refine ⟨_, _, pre0 _ (pre106 _ ?_), hrun, hended, _, _, rfl, ?_, ⟨_, rfl⟩, hW, hsame.mono (by decide) (by decide)⟩
          · show own_S p e below T105 m 23 #[.val (.double d0), .second, .val (.double d1), .second] [(.int (own_nz d1))] _
            refine XS.ifNo X105.here hx rfl (hb hby d4_23) rfl ((if0 _ _).trans (teq (hd : (own_nz d1) = (0 : Int32))).2) ?_
            show own_S p e below T105 m 26 #[.val (.double d0), .second, .val (.double d1), .second] [] _
            refine XS.iconst X105.here hx rfl (hb hby d4_26) ?_
            show own_S p e below T105 m 27 #[.val (.double d0), .second, .val (.double d1), .second] [(.int 1)] _
            refine XS.goto X105.here hx rfl (pc0 := 27) (pc' := 31) rfl (hb hby d4_27) (by decide) (by decide) ?_
            show own_S p e below T105 m 31 #[.val (.double d0), .second, .val (.double d1), .second] [(.int 1)] _
            exact retN X105 hx (t := .boolean) Bd.returns (by simp) (hb hby d4_31) hr
          · show Qm4 Z d0 d1 h0 n0 _ T105.heap _
            rw [P105_0]
            exact ⟨(by simp [own_bef, *]), N105, rfl⟩
        · skip
          obtain ⟨fs, hr, hrun, hended, hW, hsame⟩ := X105.leave (v := some (.int 0)) (fun h => by rw [Bd.returns] at h; cases h)
          refine ⟨_, _, pre0 _ (pre106 _ ?_), hrun, hended, _, _, rfl, ?_, ⟨_, rfl⟩, hW, hsame.mono (by decide) (by decide)⟩
          · show own_S p e below T105 m 23 #[.val (.double d0), .second, .val (.double d1), .second] [(.int (own_nz d1))] _
            refine XS.ifYes X105.here hx rfl (pc0 := 23) (pc' := 30) rfl (hb hby d4_23) rfl ((if0 _ _).trans (feq (hd : ¬ ((own_nz d1) = (0 : Int32)))).2) (by decide) (by decide) ?_
            show own_S p e below T105 m 30 #[.val (.double d0), .second, .val (.double d1), .second] [] _
            refine XS.iconst X105.here hx rfl (hb hby d4_30) ?_
            show own_S p e below T105 m 31 #[.val (.double d0), .second, .val (.double d1), .second] [(.int 0)] _
            exact retN X105 hx (t := .boolean) Bd.returns (by simp) (hb hby d4_31) hr
          · show Qm4 Z d0 d1 h0 n0 _ T105.heap _
            rw [P105_0]
            exact ⟨(by simp [own_bef, *]), N105, rfl⟩
    · skip
      obtain ⟨fs, hr, hrun, hended, hW, hsame⟩ := X0.leave (v := some (.int 0)) (fun h => by rw [Bd.returns] at h; cases h)
      refine ⟨_, _, pre0 _ (pre102 _ ?_), hrun, hended, _, _, rfl, ?_, ⟨_, rfl⟩, hW, hsame.mono (by decide) (by decide)⟩
      · show own_S p e below s₁ m 9 #[.val (.double d0), .second, .val (.double d1), .second] [(.int (cmpValue (FP.dcmp d0 d1) .l))] _
        refine XS.ifYes X0.here hx rfl (pc0 := 9) (pc' := 30) rfl (hb hby d4_9) rfl ((if0 _ _).trans (feq (hb_ : ¬ ((cmpValue (FP.dcmp d0 d1) .l) = (0 : Int32)))).2) (by decide) (by decide) ?_
        show own_S p e below s₁ m 30 #[.val (.double d0), .second, .val (.double d1), .second] [] _
        refine XS.iconst X0.here hx rfl (hb hby d4_30) ?_
        show own_S p e below s₁ m 31 #[.val (.double d0), .second, .val (.double d1), .second] [(.int 0)] _
        exact retN X0 hx (t := .boolean) Bd.returns (by simp) (hb hby d4_31) hr
      · show Qm4 Z d0 d1 h0 n0 _ s₁.heap _
        rw [e0]
        exact ⟨(by simp [own_bef, *]), N0, rfl⟩
theorem pd1 : parseMethodDescriptor "(JI)J" = some ⟨[.long, .int], some .long⟩ := by decide +kernel
theorem pd2 : parseMethodDescriptor "(J)D" = some ⟨[.long], some .double⟩ := by decide +kernel
theorem pd3 : parseMethodDescriptor "(D)J" = some ⟨[.double], some .long⟩ := by decide +kernel
theorem pd4 : parseMethodDescriptor "(DD)Z" = some ⟨[.double, .double], some .boolean⟩ := by decide +kernel
theorem efm0 (m : MethodId) (q0 : Int64) (q1 : Int64) (p2 : Int32) : entryFrame m #[(.long q0), (.long q1), (.int p2)] maxLocals = mkF m 0 #[.val (.long q0), .second, .val (.long q1), .second, .val (.int p2), .unset, .unset, .unset, .unset, .unset, .unset, .unset, .unset, .unset, .unset, .unset, .unset] [] := by first | (simp [entryFrame, mkF, argsToLocals, Value.category, maxLocals]; done) | rfl
def Qm0 (Z : State) (q0 : Int64) (q1 : Int64) (p2 : Int32) (h0 : Heap) (n0 : Nat) (v : Option Value) (h : Heap) (L : List Loc) : Prop := v = some (.int 1) ∧ Fr n0 L
set_option maxRecDepth 65536 in
set_option maxHeartbeats 40000000 in
theorem rmm0 (l : Launch) (Z : State) (a0 : Array Value) (hw : ∀ d ∈ tables_1, d.before a0 Z = true) (ws : List Jvm.Cond) (q0 : Int64) (q1 : Int64) (p2 : Int32) (h0 : Heap) (n0 : Nat) (Z0 : n0 ≤ h0.size)  :
    MetFree l x (head1 (Jvm.Cond.code x code maxLocals ret :: ws) room_1) (fun a U => a = #[(.long q0), (.long q1), (.int p2)] ∧ Z.Warmed39 U.vm ∧ U.heap = h0) (fun _ _ _ _ _ => True) (fun _ U o U' => ∃ v L, o = .returned v ∧ Qm0 Z q0 q1 p2 h0 n0 v U'.heap L ∧ FrameEnd U o U' L room_1.cells room_1.slots) := by
  refine MetFree.of_bodySF (plainFor_of_name pn0) hisR ?_
  intro p e s m args below meth c s₁ Bd hml0 hP hK
  obtain ⟨rfl, hZ, hh⟩ := hP
  have hx := Bd.exec
  have hby := Bd.bytes
  have hml : c.maxLocals = 17 := hml0
  have hown : s.vm.findClass "com/example/minisum/minisum/DistanceSumOrderPinLaw" = some m.cls := findClass_of_methodNamed Bd.named
  have hnm := (name_of_methodNamed Bd.named Bd.method).1
  have X0 : Stand p l e room_1 s m #[(.long q0), (.long q1), (.int p2)] below meth c s₁ [] 0 0 := Stand.of_body Bd
  have e0 : s₁.heap = h0 := by rw [← hh, Bd.state]; rfl
  have N0 := Fr.nil n0
  have pre0 : ∀ t, Steps p.tables e below (s₁.setTop (mkF m 0 #[.val (.long q0), .second, .val (.long q1), .second, .val (.int p2), .unset, .unset, .unset, .unset, .unset, .unset, .unset, .unset, .unset, .unset, .unset, .unset] [])) t → Steps p.tables e below (s₁.setTop (entryFrame m #[(.long q0), (.long q1), (.int p2)] maxLocals)) t := fun t k => castTop (efm0 m q0 q1 p2) k
  obtain ⟨r1, hr1⟩ : ∃ z, z = own_tor q0 (p2 &&& (1 : Int32)) := ⟨_, rfl⟩
  obtain ⟨r2, hr2⟩ : ∃ z, z = own_tor q1 (p2 &&& (2 : Int32)) := ⟨_, rfl⟩
  have b1 := own_tor_b q0 (p2 &&& (1 : Int32))
  have b2 := own_tor_b q1 (p2 &&& (2 : Int32))
  rw [← hr1] at b1
  rw [← hr2] at b2
  obtain ⟨_, _, ⟨T101, L101, k101, n101⟩, -, X101, ⟨Lc101, hQ101, l101, y101, z101⟩, st101⟩ := Jvm.LawKit.callS X0 hx (y := (⟨"com/example/minisum/minisum/DistanceSumOrderPinLaw", "toOrderRange", "(JI)J"⟩ : MethodName)) hown (mvT hZ (own_w hw 0 rfl)) (mvT hZ (own_w hw 1 rfl)) (mvT hZ (own_w hw 2 rfl)) (mvT hZ (own_w hw 3 rfl)) (by decide) (backOf (W := 0) (rmm1 l Z a0 hw [] q0 (p2 &&& (1 : Int32)) h0 n0 Z0 ) hZ (own_w hw 3 rfl) (own_w hw 2 rfl) (by decide) (by decide)) (g := (mkF m 5 #[.val (.long q0), .second, .val (.long q1), .second, .val (.int p2), .unset, .unset, .unset, .unset, .unset, .unset, .unset, .unset, .unset, .unset, .unset, .unset] [(.int (p2 &&& (1 : Int32))), (.long q0)])) rfl (by rw [hml]; rfl) (argsL := [(.long q0), (.int (p2 &&& (1 : Int32)))]) (rest := []) (lenOf pd1 rfl) rfl (by show 2 * 0 + _ ≤ _; exact Nat.le_of_eq rfl) (hb hby at_5) (fun _ _ => ⟨rfl, e0, (by decide : 0 + 0 ≤ _), (by decide : 0 + 0 ≤ _)⟩)
  dsimp only [Pt.U, Pt.locs, Pt.cells, Pt.slots] at X101 l101 y101 z101 st101 hQ101
  subst l101 y101 z101
  obtain ⟨rfl, Nq101, P101_0⟩ := hQ101
  have N101 := Fr.app N0 Nq101
  obtain ⟨_, _, ⟨T102, L102, k102, n102⟩, -, X102, ⟨Lc102, hQ102, l102, y102, z102⟩, st102⟩ := Jvm.LawKit.callS X101 hx (y := (⟨"com/example/minisum/minisum/DistanceSumOrderPinLaw", "toOrderRange", "(JI)J"⟩ : MethodName)) hown (mvT hZ (own_w hw 0 rfl)) (mvT hZ (own_w hw 1 rfl)) (mvT hZ (own_w hw 2 rfl)) (mvT hZ (own_w hw 3 rfl)) (by decide) (backOf (W := 0) (rmm1 l Z a0 hw [] q1 (p2 &&& (2 : Int32)) h0 n0 Z0 ) hZ (own_w hw 3 rfl) (own_w hw 2 rfl) (by decide) (by decide)) (g := (mkF m 15 #[.val (.long q0), .second, .val (.long q1), .second, .val (.int p2), .val (.long r1), .second, .unset, .unset, .unset, .unset, .unset, .unset, .unset, .unset, .unset, .unset] [(.int (p2 &&& (2 : Int32))), (.long q1)])) rfl (by rw [hml]; rfl) (argsL := [(.long q1), (.int (p2 &&& (2 : Int32)))]) (rest := []) (lenOf pd1 rfl) rfl (by show 2 * 0 + _ ≤ _; exact Nat.le_of_eq rfl) (hb hby at_15) (fun _ _ => ⟨rfl, P101_0, (by decide : 0 + 0 ≤ _), (by decide : 0 + 0 ≤ _)⟩)
  dsimp only [Pt.U, Pt.locs, Pt.cells, Pt.slots] at X102 l102 y102 z102 st102 hQ102
  subst l102 y102 z102
  obtain ⟨rfl, Nq102, P102_0⟩ := hQ102
  have N102 := Fr.app N101 Nq102
  obtain ⟨_, _, ⟨T103, L103, k103, n103⟩, -, X103, ⟨Lc103, hQ103, l103, y103, z103⟩, st103⟩ := Jvm.LawKit.callS X102 hx (y := (⟨"com/example/minisum/minisum/DistanceSum", "unorder", "(J)D"⟩ : MethodName)) hown (mvT hZ (own_w hw 5 rfl)) (mvT hZ (own_w hw 6 rfl)) (mvT hZ (own_w hw 7 rfl)) (mvT hZ (own_w hw 8 rfl)) (by decide) (backOf (W := 0) (rmm2 l Z a0 hw [] r1 h0 n0 Z0 (own_okb b1.1 b1.2)) hZ (own_w hw 8 rfl) (own_w hw 7 rfl) (by decide) (by decide)) (g := (mkF m 22 #[.val (.long q0), .second, .val (.long q1), .second, .val (.int p2), .val (.long r1), .second, .val (.long r2), .second, .unset, .unset, .unset, .unset, .unset, .unset, .unset, .unset] [(.long r1)])) rfl (by rw [hml]; rfl) (argsL := [(.long r1)]) (rest := []) (lenOf pd2 rfl) rfl (by show 2 * 0 + _ ≤ _; exact Nat.le_of_eq rfl) (hb hby at_22) (fun _ _ => ⟨rfl, P102_0, (by decide : 0 + 0 ≤ _), (by decide : 0 + 0 ≤ _)⟩)
  dsimp only [Pt.U, Pt.locs, Pt.cells, Pt.slots] at X103 l103 y103 z103 st103 hQ103
  subst l103 y103 z103
  obtain ⟨rfl, Nq103, P103_0⟩ := hQ103
  have N103 := Fr.app N102 Nq103
  obtain ⟨_, _, ⟨T104, L104, k104, n104⟩, -, X104, ⟨Lc104, hQ104, l104, y104, z104⟩, st104⟩ := Jvm.LawKit.callS X103 hx (y := (⟨"com/example/minisum/minisum/DistanceSum", "unorder", "(J)D"⟩ : MethodName)) hown (mvT hZ (own_w hw 5 rfl)) (mvT hZ (own_w hw 6 rfl)) (mvT hZ (own_w hw 7 rfl)) (mvT hZ (own_w hw 8 rfl)) (by decide) (backOf (W := 0) (rmm2 l Z a0 hw [] r2 h0 n0 Z0 (own_okb b2.1 b2.2)) hZ (own_w hw 8 rfl) (own_w hw 7 rfl) (by decide) (by decide)) (g := (mkF m 29 #[.val (.long q0), .second, .val (.long q1), .second, .val (.int p2), .val (.long r1), .second, .val (.long r2), .second, .val (.double (own_unb r1)), .second, .unset, .unset, .unset, .unset, .unset, .unset] [(.long r2)])) rfl (by rw [hml]; rfl) (argsL := [(.long r2)]) (rest := []) (lenOf pd2 rfl) rfl (by show 2 * 0 + _ ≤ _; exact Nat.le_of_eq rfl) (hb hby at_29) (fun _ _ => ⟨rfl, P103_0, (by decide : 0 + 0 ≤ _), (by decide : 0 + 0 ≤ _)⟩)
  dsimp only [Pt.U, Pt.locs, Pt.cells, Pt.slots] at X104 l104 y104 z104 st104 hQ104
  subst l104 y104 z104
  obtain ⟨rfl, Nq104, P104_0⟩ := hQ104
  have N104 := Fr.app N103 Nq104
  obtain ⟨_, _, ⟨T105, L105, k105, n105⟩, -, X105, ⟨Lc105, hQ105, l105, y105, z105⟩, st105⟩ := Jvm.LawKit.callS X104 hx (y := (⟨"com/example/minisum/minisum/DistanceSum", "order", "(D)J"⟩ : MethodName)) hown (mvT hZ (own_w hw 13 rfl)) (mvT hZ (own_w hw 14 rfl)) (mvT hZ (own_w hw 7 rfl)) (mvT hZ (own_w hw 15 rfl)) (by decide) (backOf (W := 0) (rmm3 l Z a0 hw [] (own_unb r1) h0 n0 Z0 ) hZ (own_w hw 15 rfl) (own_w hw 7 rfl) (by decide) (by decide)) (g := (mkF m 36 #[.val (.long q0), .second, .val (.long q1), .second, .val (.int p2), .val (.long r1), .second, .val (.long r2), .second, .val (.double (own_unb r1)), .second, .val (.double (own_unb r2)), .second, .unset, .unset, .unset, .unset] [(.double (own_unb r1))])) rfl (by rw [hml]; rfl) (argsL := [(.double (own_unb r1))]) (rest := []) (lenOf pd3 rfl) rfl (by show 2 * 0 + _ ≤ _; exact Nat.le_of_eq rfl) (hb hby at_36) (fun _ _ => ⟨rfl, P104_0, (by decide : 0 + 0 ≤ _), (by decide : 0 + 0 ≤ _)⟩)
  dsimp only [Pt.U, Pt.locs, Pt.cells, Pt.slots] at X105 l105 y105 z105 st105 hQ105
  subst l105 y105 z105
  obtain ⟨rfl, Nq105, P105_0⟩ := hQ105
  have N105 := Fr.app N104 Nq105
  obtain ⟨_, _, ⟨T106, L106, k106, n106⟩, -, X106, ⟨Lc106, hQ106, l106, y106, z106⟩, st106⟩ := Jvm.LawKit.callS X105 hx (y := (⟨"com/example/minisum/minisum/DistanceSum", "order", "(D)J"⟩ : MethodName)) hown (mvT hZ (own_w hw 13 rfl)) (mvT hZ (own_w hw 14 rfl)) (mvT hZ (own_w hw 7 rfl)) (mvT hZ (own_w hw 15 rfl)) (by decide) (backOf (W := 0) (rmm3 l Z a0 hw [] (own_unb r2) h0 n0 Z0 ) hZ (own_w hw 15 rfl) (own_w hw 7 rfl) (by decide) (by decide)) (g := (mkF m 43 #[.val (.long q0), .second, .val (.long q1), .second, .val (.int p2), .val (.long r1), .second, .val (.long r2), .second, .val (.double (own_unb r1)), .second, .val (.double (own_unb r2)), .second, .val (.long r1), .second, .unset, .unset] [(.double (own_unb r2))])) rfl (by rw [hml]; rfl) (argsL := [(.double (own_unb r2))]) (rest := []) (lenOf pd3 rfl) rfl (by show 2 * 0 + _ ≤ _; exact Nat.le_of_eq rfl) (hb hby at_43) (fun _ _ => ⟨rfl, P105_0, (by decide : 0 + 0 ≤ _), (by decide : 0 + 0 ≤ _)⟩)
  dsimp only [Pt.U, Pt.locs, Pt.cells, Pt.slots] at X106 l106 y106 z106 st106 hQ106
  subst l106 y106 z106
  obtain ⟨rfl, Nq106, P106_0⟩ := hQ106
  have N106 := Fr.app N105 Nq106
  have pre107 : ∀ t, Steps p.tables e below (T106.setTop (mkF m 69 #[.val (.long q0), .second, .val (.long q1), .second, .val (.int p2), .val (.long r1), .second, .val (.long r2), .second, .val (.double (own_unb r1)), .second, .val (.double (own_unb r2)), .second, .val (.long r1), .second, .val (.long r2), .second] [(.int (lcmpW r1 r2))])) t → Steps p.tables e below (s₁.setTop (mkF m 0 #[.val (.long q0), .second, .val (.long q1), .second, .val (.int p2), .unset, .unset, .unset, .unset, .unset, .unset, .unset, .unset, .unset, .unset, .unset, .unset] [])) t := by
    intro t kt
    show own_S p e below s₁ m 0 #[.val (.long q0), .second, .val (.long q1), .second, .val (.int p2), .unset, .unset, .unset, .unset, .unset, .unset, .unset, .unset, .unset, .unset, .unset, .unset] [] _
    refine XS.lloadN X0.here hx rfl (hb hby at_0) rfl ?_
    show own_S p e below s₁ m 1 #[.val (.long q0), .second, .val (.long q1), .second, .val (.int p2), .unset, .unset, .unset, .unset, .unset, .unset, .unset, .unset, .unset, .unset, .unset, .unset] [(.long q0)] _
    refine XS.iload X0.here hx rfl (hb hby at_1) rfl ?_
    show own_S p e below s₁ m 3 #[.val (.long q0), .second, .val (.long q1), .second, .val (.int p2), .unset, .unset, .unset, .unset, .unset, .unset, .unset, .unset, .unset, .unset, .unset, .unset] [(.int p2), (.long q0)] _
    refine XS.iconst X0.here hx rfl (hb hby at_3) ?_
    show own_S p e below s₁ m 4 #[.val (.long q0), .second, .val (.long q1), .second, .val (.int p2), .unset, .unset, .unset, .unset, .unset, .unset, .unset, .unset, .unset, .unset, .unset, .unset] [(.int 1), (.int p2), (.long q0)] _
    refine XS.iand X0.here hx rfl (hb hby at_4) rfl ?_
    show own_S p e below s₁ m 5 #[.val (.long q0), .second, .val (.long q1), .second, .val (.int p2), .unset, .unset, .unset, .unset, .unset, .unset, .unset, .unset, .unset, .unset, .unset, .unset] [(.int (p2 &&& (1 : Int32))), (.long q0)] _
    refine st101 _ ?_
    show own_S p e below T101 m 8 #[.val (.long q0), .second, .val (.long q1), .second, .val (.int p2), .unset, .unset, .unset, .unset, .unset, .unset, .unset, .unset, .unset, .unset, .unset, .unset] [(.long (own_tor q0 (p2 &&& (1 : Int32))))] _
    refine reJ (hr1.symm : (own_tor q0 (p2 &&& (1 : Int32))) = r1) ?_
    show own_S p e below T101 m 8 #[.val (.long q0), .second, .val (.long q1), .second, .val (.int p2), .unset, .unset, .unset, .unset, .unset, .unset, .unset, .unset, .unset, .unset, .unset, .unset] [(.long r1)] _
    refine XS.lstore X101.here hx rfl (hb hby at_8) rfl (l' := #[.val (.long q0), .second, .val (.long q1), .second, .val (.int p2), .val (.long r1), .second, .unset, .unset, .unset, .unset, .unset, .unset, .unset, .unset, .unset, .unset]) rfl ?_
    show own_S p e below T101 m 10 #[.val (.long q0), .second, .val (.long q1), .second, .val (.int p2), .val (.long r1), .second, .unset, .unset, .unset, .unset, .unset, .unset, .unset, .unset, .unset, .unset] [] _
    refine XS.lloadN X101.here hx rfl (hb hby at_10) rfl ?_
    show own_S p e below T101 m 11 #[.val (.long q0), .second, .val (.long q1), .second, .val (.int p2), .val (.long r1), .second, .unset, .unset, .unset, .unset, .unset, .unset, .unset, .unset, .unset, .unset] [(.long q1)] _
    refine XS.iload X101.here hx rfl (hb hby at_11) rfl ?_
    show own_S p e below T101 m 13 #[.val (.long q0), .second, .val (.long q1), .second, .val (.int p2), .val (.long r1), .second, .unset, .unset, .unset, .unset, .unset, .unset, .unset, .unset, .unset, .unset] [(.int p2), (.long q1)] _
    refine XS.iconst X101.here hx rfl (hb hby at_13) ?_
    show own_S p e below T101 m 14 #[.val (.long q0), .second, .val (.long q1), .second, .val (.int p2), .val (.long r1), .second, .unset, .unset, .unset, .unset, .unset, .unset, .unset, .unset, .unset, .unset] [(.int 2), (.int p2), (.long q1)] _
    refine XS.iand X101.here hx rfl (hb hby at_14) rfl ?_
    show own_S p e below T101 m 15 #[.val (.long q0), .second, .val (.long q1), .second, .val (.int p2), .val (.long r1), .second, .unset, .unset, .unset, .unset, .unset, .unset, .unset, .unset, .unset, .unset] [(.int (p2 &&& (2 : Int32))), (.long q1)] _
    refine st102 _ ?_
    show own_S p e below T102 m 18 #[.val (.long q0), .second, .val (.long q1), .second, .val (.int p2), .val (.long r1), .second, .unset, .unset, .unset, .unset, .unset, .unset, .unset, .unset, .unset, .unset] [(.long (own_tor q1 (p2 &&& (2 : Int32))))] _
    refine reJ (hr2.symm : (own_tor q1 (p2 &&& (2 : Int32))) = r2) ?_
    show own_S p e below T102 m 18 #[.val (.long q0), .second, .val (.long q1), .second, .val (.int p2), .val (.long r1), .second, .unset, .unset, .unset, .unset, .unset, .unset, .unset, .unset, .unset, .unset] [(.long r2)] _
    refine XS.lstore X102.here hx rfl (hb hby at_18) rfl (l' := #[.val (.long q0), .second, .val (.long q1), .second, .val (.int p2), .val (.long r1), .second, .val (.long r2), .second, .unset, .unset, .unset, .unset, .unset, .unset, .unset, .unset]) rfl ?_
    show own_S p e below T102 m 20 #[.val (.long q0), .second, .val (.long q1), .second, .val (.int p2), .val (.long r1), .second, .val (.long r2), .second, .unset, .unset, .unset, .unset, .unset, .unset, .unset, .unset] [] _
    refine XS.lload X102.here hx rfl (hb hby at_20) rfl ?_
    show own_S p e below T102 m 22 #[.val (.long q0), .second, .val (.long q1), .second, .val (.int p2), .val (.long r1), .second, .val (.long r2), .second, .unset, .unset, .unset, .unset, .unset, .unset, .unset, .unset] [(.long r1)] _
    refine st103 _ ?_
    show own_S p e below T103 m 25 #[.val (.long q0), .second, .val (.long q1), .second, .val (.int p2), .val (.long r1), .second, .val (.long r2), .second, .unset, .unset, .unset, .unset, .unset, .unset, .unset, .unset] [(.double (own_unb r1))] _
    refine XS.dstore X103.here hx rfl (hb hby at_25) rfl (l' := #[.val (.long q0), .second, .val (.long q1), .second, .val (.int p2), .val (.long r1), .second, .val (.long r2), .second, .val (.double (own_unb r1)), .second, .unset, .unset, .unset, .unset, .unset, .unset]) rfl ?_
    show own_S p e below T103 m 27 #[.val (.long q0), .second, .val (.long q1), .second, .val (.int p2), .val (.long r1), .second, .val (.long r2), .second, .val (.double (own_unb r1)), .second, .unset, .unset, .unset, .unset, .unset, .unset] [] _
    refine XS.lload X103.here hx rfl (hb hby at_27) rfl ?_
    show own_S p e below T103 m 29 #[.val (.long q0), .second, .val (.long q1), .second, .val (.int p2), .val (.long r1), .second, .val (.long r2), .second, .val (.double (own_unb r1)), .second, .unset, .unset, .unset, .unset, .unset, .unset] [(.long r2)] _
    refine st104 _ ?_
    show own_S p e below T104 m 32 #[.val (.long q0), .second, .val (.long q1), .second, .val (.int p2), .val (.long r1), .second, .val (.long r2), .second, .val (.double (own_unb r1)), .second, .unset, .unset, .unset, .unset, .unset, .unset] [(.double (own_unb r2))] _
    refine XS.dstore X104.here hx rfl (hb hby at_32) rfl (l' := #[.val (.long q0), .second, .val (.long q1), .second, .val (.int p2), .val (.long r1), .second, .val (.long r2), .second, .val (.double (own_unb r1)), .second, .val (.double (own_unb r2)), .second, .unset, .unset, .unset, .unset]) rfl ?_
    show own_S p e below T104 m 34 #[.val (.long q0), .second, .val (.long q1), .second, .val (.int p2), .val (.long r1), .second, .val (.long r2), .second, .val (.double (own_unb r1)), .second, .val (.double (own_unb r2)), .second, .unset, .unset, .unset, .unset] [] _
    refine XS.dload X104.here hx rfl (hb hby at_34) rfl ?_
    show own_S p e below T104 m 36 #[.val (.long q0), .second, .val (.long q1), .second, .val (.int p2), .val (.long r1), .second, .val (.long r2), .second, .val (.double (own_unb r1)), .second, .val (.double (own_unb r2)), .second, .unset, .unset, .unset, .unset] [(.double (own_unb r1))] _
    refine st105 _ ?_
    show own_S p e below T105 m 39 #[.val (.long q0), .second, .val (.long q1), .second, .val (.int p2), .val (.long r1), .second, .val (.long r2), .second, .val (.double (own_unb r1)), .second, .val (.double (own_unb r2)), .second, .unset, .unset, .unset, .unset] [(.long (own_ord (own_unb r1)))] _
    refine reJ (own_ordunb r1 : (own_ord (own_unb r1)) = r1) ?_
    show own_S p e below T105 m 39 #[.val (.long q0), .second, .val (.long q1), .second, .val (.int p2), .val (.long r1), .second, .val (.long r2), .second, .val (.double (own_unb r1)), .second, .val (.double (own_unb r2)), .second, .unset, .unset, .unset, .unset] [(.long r1)] _
    refine XS.lstore X105.here hx rfl (hb hby at_39) rfl (l' := #[.val (.long q0), .second, .val (.long q1), .second, .val (.int p2), .val (.long r1), .second, .val (.long r2), .second, .val (.double (own_unb r1)), .second, .val (.double (own_unb r2)), .second, .val (.long r1), .second, .unset, .unset]) rfl ?_
    show own_S p e below T105 m 41 #[.val (.long q0), .second, .val (.long q1), .second, .val (.int p2), .val (.long r1), .second, .val (.long r2), .second, .val (.double (own_unb r1)), .second, .val (.double (own_unb r2)), .second, .val (.long r1), .second, .unset, .unset] [] _
    refine XS.dload X105.here hx rfl (hb hby at_41) rfl ?_
    show own_S p e below T105 m 43 #[.val (.long q0), .second, .val (.long q1), .second, .val (.int p2), .val (.long r1), .second, .val (.long r2), .second, .val (.double (own_unb r1)), .second, .val (.double (own_unb r2)), .second, .val (.long r1), .second, .unset, .unset] [(.double (own_unb r2))] _
    refine st106 _ ?_
    show own_S p e below T106 m 46 #[.val (.long q0), .second, .val (.long q1), .second, .val (.int p2), .val (.long r1), .second, .val (.long r2), .second, .val (.double (own_unb r1)), .second, .val (.double (own_unb r2)), .second, .val (.long r1), .second, .unset, .unset] [(.long (own_ord (own_unb r2)))] _
    refine reJ (own_ordunb r2 : (own_ord (own_unb r2)) = r2) ?_
    show own_S p e below T106 m 46 #[.val (.long q0), .second, .val (.long q1), .second, .val (.int p2), .val (.long r1), .second, .val (.long r2), .second, .val (.double (own_unb r1)), .second, .val (.double (own_unb r2)), .second, .val (.long r1), .second, .unset, .unset] [(.long r2)] _
    refine XS.lstore X106.here hx rfl (hb hby at_46) rfl (l' := #[.val (.long q0), .second, .val (.long q1), .second, .val (.int p2), .val (.long r1), .second, .val (.long r2), .second, .val (.double (own_unb r1)), .second, .val (.double (own_unb r2)), .second, .val (.long r1), .second, .val (.long r2), .second]) rfl ?_
    show own_S p e below T106 m 48 #[.val (.long q0), .second, .val (.long q1), .second, .val (.int p2), .val (.long r1), .second, .val (.long r2), .second, .val (.double (own_unb r1)), .second, .val (.double (own_unb r2)), .second, .val (.long r1), .second, .val (.long r2), .second] [] _
    refine XS.lload X106.here hx rfl (hb hby at_48) rfl ?_
    show own_S p e below T106 m 50 #[.val (.long q0), .second, .val (.long q1), .second, .val (.int p2), .val (.long r1), .second, .val (.long r2), .second, .val (.double (own_unb r1)), .second, .val (.double (own_unb r2)), .second, .val (.long r1), .second, .val (.long r2), .second] [(.long r1)] _
    refine XS.lload X106.here hx rfl (hb hby at_50) rfl ?_
    show own_S p e below T106 m 52 #[.val (.long q0), .second, .val (.long q1), .second, .val (.int p2), .val (.long r1), .second, .val (.long r2), .second, .val (.double (own_unb r1)), .second, .val (.double (own_unb r2)), .second, .val (.long r1), .second, .val (.long r2), .second] [(.long r1), (.long r1)] _
    refine XS.lcmp X106.here hx rfl (hb hby at_52) rfl ?_
    show own_S p e below T106 m 53 #[.val (.long q0), .second, .val (.long q1), .second, .val (.int p2), .val (.long r1), .second, .val (.long r2), .second, .val (.double (own_unb r1)), .second, .val (.double (own_unb r2)), .second, .val (.long r1), .second, .val (.long r2), .second] [(.int (lcmpW r1 r1))] _
    refine XS.ifNo X106.here hx rfl (hb hby at_53) rfl ((if0 _ _).trans (teq ((lw_eq _ _).mpr rfl : (lcmpW r1 r1) = (0 : Int32))).2) ?_
    show own_S p e below T106 m 56 #[.val (.long q0), .second, .val (.long q1), .second, .val (.int p2), .val (.long r1), .second, .val (.long r2), .second, .val (.double (own_unb r1)), .second, .val (.double (own_unb r2)), .second, .val (.long r1), .second, .val (.long r2), .second] [] _
    refine XS.lload X106.here hx rfl (hb hby at_56) rfl ?_
    show own_S p e below T106 m 58 #[.val (.long q0), .second, .val (.long q1), .second, .val (.int p2), .val (.long r1), .second, .val (.long r2), .second, .val (.double (own_unb r1)), .second, .val (.double (own_unb r2)), .second, .val (.long r1), .second, .val (.long r2), .second] [(.long r2)] _
    refine XS.lload X106.here hx rfl (hb hby at_58) rfl ?_
    show own_S p e below T106 m 60 #[.val (.long q0), .second, .val (.long q1), .second, .val (.int p2), .val (.long r1), .second, .val (.long r2), .second, .val (.double (own_unb r1)), .second, .val (.double (own_unb r2)), .second, .val (.long r1), .second, .val (.long r2), .second] [(.long r2), (.long r2)] _
    refine XS.lcmp X106.here hx rfl (hb hby at_60) rfl ?_
    show own_S p e below T106 m 61 #[.val (.long q0), .second, .val (.long q1), .second, .val (.int p2), .val (.long r1), .second, .val (.long r2), .second, .val (.double (own_unb r1)), .second, .val (.double (own_unb r2)), .second, .val (.long r1), .second, .val (.long r2), .second] [(.int (lcmpW r2 r2))] _
    refine XS.ifNo X106.here hx rfl (hb hby at_61) rfl ((if0 _ _).trans (teq ((lw_eq _ _).mpr rfl : (lcmpW r2 r2) = (0 : Int32))).2) ?_
    show own_S p e below T106 m 64 #[.val (.long q0), .second, .val (.long q1), .second, .val (.int p2), .val (.long r1), .second, .val (.long r2), .second, .val (.double (own_unb r1)), .second, .val (.double (own_unb r2)), .second, .val (.long r1), .second, .val (.long r2), .second] [] _
    refine XS.lload X106.here hx rfl (hb hby at_64) rfl ?_
    show own_S p e below T106 m 66 #[.val (.long q0), .second, .val (.long q1), .second, .val (.int p2), .val (.long r1), .second, .val (.long r2), .second, .val (.double (own_unb r1)), .second, .val (.double (own_unb r2)), .second, .val (.long r1), .second, .val (.long r2), .second] [(.long r1)] _
    refine XS.lload X106.here hx rfl (hb hby at_66) rfl ?_
    show own_S p e below T106 m 68 #[.val (.long q0), .second, .val (.long q1), .second, .val (.int p2), .val (.long r1), .second, .val (.long r2), .second, .val (.double (own_unb r1)), .second, .val (.double (own_unb r2)), .second, .val (.long r1), .second, .val (.long r2), .second] [(.long r2), (.long r1)] _
    refine XS.lcmp X106.here hx rfl (hb hby at_68) rfl ?_
    exact kt
  by_cases h12 : (lcmpW r1 r2) < (0 : Int32)
  · skip
    obtain ⟨_, _, ⟨T108, L108, k108, n108⟩, -, X108, ⟨Lc108, hQ108, l108, y108, z108⟩, st108⟩ := Jvm.LawKit.callS X106 hx (y := (⟨"com/example/minisum/minisum/DistanceSumOrderPinLaw", "before", "(DD)Z"⟩ : MethodName)) hown (mvT hZ (own_w hw 19 rfl)) (mvT hZ (own_w hw 20 rfl)) (mvT hZ (own_w hw 2 rfl)) (mvT hZ (own_w hw 21 rfl)) (by decide) (backOf (W := 1) (rmm4 l Z a0 hw [] (own_unb r1) (own_unb r2) h0 n0 Z0 ) hZ (own_w hw 21 rfl) (own_w hw 2 rfl) (by decide) (by decide)) (g := (mkF m 81 #[.val (.long q0), .second, .val (.long q1), .second, .val (.int p2), .val (.long r1), .second, .val (.long r2), .second, .val (.double (own_unb r1)), .second, .val (.double (own_unb r2)), .second, .val (.long r1), .second, .val (.long r2), .second] [(.double (own_unb r2)), (.double (own_unb r1)), (.int 1)])) rfl (by rw [hml]; rfl) (argsL := [(.double (own_unb r1)), (.double (own_unb r2))]) (rest := [(.int 1)]) (lenOf pd4 rfl) rfl (by show 2 * 0 + _ ≤ _; exact Nat.le_of_eq rfl) (hb hby at_81) (fun _ _ => ⟨rfl, P106_0, (by decide : 0 + 0 ≤ _), (by decide : 0 + 0 ≤ _)⟩)
    dsimp only [Pt.U, Pt.locs, Pt.cells, Pt.slots] at X108 l108 y108 z108 st108 hQ108
    subst l108 y108 z108
    obtain ⟨rfl, Nq108, P108_0⟩ := hQ108
    have N108 := Fr.app N106 Nq108
    obtain ⟨_, _, ⟨T109, L109, k109, n109⟩, -, X109, ⟨Lc109, hQ109, l109, y109, z109⟩, st109⟩ := Jvm.LawKit.callS X108 hx (y := (⟨"com/example/minisum/minisum/DistanceSumOrderPinLaw", "before", "(DD)Z"⟩ : MethodName)) hown (mvT hZ (own_w hw 19 rfl)) (mvT hZ (own_w hw 20 rfl)) (mvT hZ (own_w hw 2 rfl)) (mvT hZ (own_w hw 21 rfl)) (by decide) (backOf (W := 1) (rmm4 l Z a0 hw [] (own_unb r2) (own_unb r1) h0 n0 Z0 ) hZ (own_w hw 21 rfl) (own_w hw 2 rfl) (by decide) (by decide)) (g := (mkF m 104 #[.val (.long q0), .second, .val (.long q1), .second, .val (.int p2), .val (.long r1), .second, .val (.long r2), .second, .val (.double (own_unb r1)), .second, .val (.double (own_unb r2)), .second, .val (.long r1), .second, .val (.long r2), .second] [(.double (own_unb r1)), (.double (own_unb r2)), (.int 0)])) rfl (by rw [hml]; rfl) (argsL := [(.double (own_unb r2)), (.double (own_unb r1))]) (rest := [(.int 0)]) (lenOf pd4 rfl) rfl (by show 2 * 0 + _ ≤ _; exact Nat.le_of_eq rfl) (hb hby at_104) (fun _ _ => ⟨rfl, P108_0, (by decide : 0 + 0 ≤ _), (by decide : 0 + 0 ≤ _)⟩)
    dsimp only [Pt.U, Pt.locs, Pt.cells, Pt.slots] at X109 l109 y109 z109 st109 hQ109
    subst l109 y109 z109
    obtain ⟨rfl, Nq109, P109_0⟩ := hQ109
    have N109 := Fr.app N108 Nq109
    obtain ⟨fs, hr, hrun, hended, hW, hsame⟩ := X109.leave (v := some (.int 1)) (fun h => by rw [Bd.returns] at h; cases h)
    refine ⟨_, _, pre0 _ (pre107 _ ?_), hrun, hended, _, _, rfl, ?_, ⟨_, rfl⟩, hW, hsame.mono (by decide) (by decide)⟩
    · show own_S p e below T106 m 69 #[.val (.long q0), .second, .val (.long q1), .second, .val (.int p2), .val (.long r1), .second, .val (.long r2), .second, .val (.double (own_unb r1)), .second, .val (.double (own_unb r2)), .second, .val (.long r1), .second, .val (.long r2), .second] [(.int (lcmpW r1 r2))] _
      refine XS.ifNo X106.here hx rfl (hb hby at_69) rfl ((if0 _ _).trans (tlt (h12 : (lcmpW r1 r2) < (0 : Int32))).2.1) ?_
      show own_S p e below T106 m 72 #[.val (.long q0), .second, .val (.long q1), .second, .val (.int p2), .val (.long r1), .second, .val (.long r2), .second, .val (.double (own_unb r1)), .second, .val (.double (own_unb r2)), .second, .val (.long r1), .second, .val (.long r2), .second] [] _
      refine XS.iconst X106.here hx rfl (hb hby at_72) ?_
      show own_S p e below T106 m 73 #[.val (.long q0), .second, .val (.long q1), .second, .val (.int p2), .val (.long r1), .second, .val (.long r2), .second, .val (.double (own_unb r1)), .second, .val (.double (own_unb r2)), .second, .val (.long r1), .second, .val (.long r2), .second] [(.int 1)] _
      refine XS.goto X106.here hx rfl (pc0 := 73) (pc' := 77) rfl (hb hby at_73) (by decide) (by decide) ?_
      show own_S p e below T106 m 77 #[.val (.long q0), .second, .val (.long q1), .second, .val (.int p2), .val (.long r1), .second, .val (.long r2), .second, .val (.double (own_unb r1)), .second, .val (.double (own_unb r2)), .second, .val (.long r1), .second, .val (.long r2), .second] [(.int 1)] _
      refine XS.dload X106.here hx rfl (hb hby at_77) rfl ?_
      show own_S p e below T106 m 79 #[.val (.long q0), .second, .val (.long q1), .second, .val (.int p2), .val (.long r1), .second, .val (.long r2), .second, .val (.double (own_unb r1)), .second, .val (.double (own_unb r2)), .second, .val (.long r1), .second, .val (.long r2), .second] [(.double (own_unb r1)), (.int 1)] _
      refine XS.dload X106.here hx rfl (hb hby at_79) rfl ?_
      show own_S p e below T106 m 81 #[.val (.long q0), .second, .val (.long q1), .second, .val (.int p2), .val (.long r1), .second, .val (.long r2), .second, .val (.double (own_unb r1)), .second, .val (.double (own_unb r2)), .second, .val (.long r1), .second, .val (.long r2), .second] [(.double (own_unb r2)), (.double (own_unb r1)), (.int 1)] _
      refine st108 _ ?_
      show own_S p e below T108 m 84 #[.val (.long q0), .second, .val (.long q1), .second, .val (.int p2), .val (.long r1), .second, .val (.long r2), .second, .val (.double (own_unb r1)), .second, .val (.double (own_unb r2)), .second, .val (.long r1), .second, .val (.long r2), .second] [(.int (own_bef (own_unb r1) (own_unb r2))), (.int 1)] _
      refine reI (own_bef1 b1.1 b1.2 b2.1 b2.2 ((lw_lt _ _).mp h12) : (own_bef (own_unb r1) (own_unb r2)) = (1 : Int32)) ?_
      show own_S p e below T108 m 84 #[.val (.long q0), .second, .val (.long q1), .second, .val (.int p2), .val (.long r1), .second, .val (.long r2), .second, .val (.double (own_unb r1)), .second, .val (.double (own_unb r2)), .second, .val (.long r1), .second, .val (.long r2), .second] [(.int 1), (.int 1)] _
      refine XS.icmpNo X108.here hx rfl (hb hby at_84) rfl (teq (by decide : (1 : Int32) = (1 : Int32))).2 ?_
      show own_S p e below T108 m 87 #[.val (.long q0), .second, .val (.long q1), .second, .val (.int p2), .val (.long r1), .second, .val (.long r2), .second, .val (.double (own_unb r1)), .second, .val (.double (own_unb r2)), .second, .val (.long r1), .second, .val (.long r2), .second] [] _
      refine XS.lload X108.here hx rfl (hb hby at_87) rfl ?_
      show own_S p e below T108 m 89 #[.val (.long q0), .second, .val (.long q1), .second, .val (.int p2), .val (.long r1), .second, .val (.long r2), .second, .val (.double (own_unb r1)), .second, .val (.double (own_unb r2)), .second, .val (.long r1), .second, .val (.long r2), .second] [(.long r2)] _
      refine XS.lload X108.here hx rfl (hb hby at_89) rfl ?_
      show own_S p e below T108 m 91 #[.val (.long q0), .second, .val (.long q1), .second, .val (.int p2), .val (.long r1), .second, .val (.long r2), .second, .val (.double (own_unb r1)), .second, .val (.double (own_unb r2)), .second, .val (.long r1), .second, .val (.long r2), .second] [(.long r1), (.long r2)] _
      refine XS.lcmp X108.here hx rfl (hb hby at_91) rfl ?_
      show own_S p e below T108 m 92 #[.val (.long q0), .second, .val (.long q1), .second, .val (.int p2), .val (.long r1), .second, .val (.long r2), .second, .val (.double (own_unb r1)), .second, .val (.double (own_unb r2)), .second, .val (.long r1), .second, .val (.long r2), .second] [(.int (lcmpW r2 r1))] _
      refine XS.ifYes X108.here hx rfl (pc0 := 92) (pc' := 99) rfl (hb hby at_92) rfl ((if0 _ _).trans (flt (own_asym h12 : ¬ ((lcmpW r2 r1) < (0 : Int32)))).2.1) (by decide) (by decide) ?_
      show own_S p e below T108 m 99 #[.val (.long q0), .second, .val (.long q1), .second, .val (.int p2), .val (.long r1), .second, .val (.long r2), .second, .val (.double (own_unb r1)), .second, .val (.double (own_unb r2)), .second, .val (.long r1), .second, .val (.long r2), .second] [] _
      refine XS.iconst X108.here hx rfl (hb hby at_99) ?_
      show own_S p e below T108 m 100 #[.val (.long q0), .second, .val (.long q1), .second, .val (.int p2), .val (.long r1), .second, .val (.long r2), .second, .val (.double (own_unb r1)), .second, .val (.double (own_unb r2)), .second, .val (.long r1), .second, .val (.long r2), .second] [(.int 0)] _
      refine XS.dload X108.here hx rfl (hb hby at_100) rfl ?_
      show own_S p e below T108 m 102 #[.val (.long q0), .second, .val (.long q1), .second, .val (.int p2), .val (.long r1), .second, .val (.long r2), .second, .val (.double (own_unb r1)), .second, .val (.double (own_unb r2)), .second, .val (.long r1), .second, .val (.long r2), .second] [(.double (own_unb r2)), (.int 0)] _
      refine XS.dload X108.here hx rfl (hb hby at_102) rfl ?_
      show own_S p e below T108 m 104 #[.val (.long q0), .second, .val (.long q1), .second, .val (.int p2), .val (.long r1), .second, .val (.long r2), .second, .val (.double (own_unb r1)), .second, .val (.double (own_unb r2)), .second, .val (.long r1), .second, .val (.long r2), .second] [(.double (own_unb r1)), (.double (own_unb r2)), (.int 0)] _
      refine st109 _ ?_
      show own_S p e below T109 m 107 #[.val (.long q0), .second, .val (.long q1), .second, .val (.int p2), .val (.long r1), .second, .val (.long r2), .second, .val (.double (own_unb r1)), .second, .val (.double (own_unb r2)), .second, .val (.long r1), .second, .val (.long r2), .second] [(.int (own_bef (own_unb r2) (own_unb r1))), (.int 0)] _
      refine reI (own_bef0 b2.1 b2.2 b1.1 b1.2 (fun q => own_asym h12 ((lw_lt _ _).mpr q)) : (own_bef (own_unb r2) (own_unb r1)) = (0 : Int32)) ?_
      show own_S p e below T109 m 107 #[.val (.long q0), .second, .val (.long q1), .second, .val (.int p2), .val (.long r1), .second, .val (.long r2), .second, .val (.double (own_unb r1)), .second, .val (.double (own_unb r2)), .second, .val (.long r1), .second, .val (.long r2), .second] [(.int 0), (.int 0)] _
      refine XS.icmpNo X109.here hx rfl (hb hby at_107) rfl (teq (by decide : (0 : Int32) = (0 : Int32))).2 ?_
      show own_S p e below T109 m 110 #[.val (.long q0), .second, .val (.long q1), .second, .val (.int p2), .val (.long r1), .second, .val (.long r2), .second, .val (.double (own_unb r1)), .second, .val (.double (own_unb r2)), .second, .val (.long r1), .second, .val (.long r2), .second] [] _
      refine XS.iconst X109.here hx rfl (hb hby at_110) ?_
      show own_S p e below T109 m 111 #[.val (.long q0), .second, .val (.long q1), .second, .val (.int p2), .val (.long r1), .second, .val (.long r2), .second, .val (.double (own_unb r1)), .second, .val (.double (own_unb r2)), .second, .val (.long r1), .second, .val (.long r2), .second] [(.int 1)] _
      refine XS.goto X109.here hx rfl (pc0 := 111) (pc' := 115) rfl (hb hby at_111) (by decide) (by decide) ?_
      show own_S p e below T109 m 115 #[.val (.long q0), .second, .val (.long q1), .second, .val (.int p2), .val (.long r1), .second, .val (.long r2), .second, .val (.double (own_unb r1)), .second, .val (.double (own_unb r2)), .second, .val (.long r1), .second, .val (.long r2), .second] [(.int 1)] _
      exact retN X109 hx (t := .boolean) Bd.returns (by simp) (hb hby at_115) hr
    · show Qm0 Z q0 q1 p2 h0 n0 _ T109.heap _
      rw [P109_0]
      exact ⟨rfl, N109⟩
  · skip
    obtain ⟨_, _, ⟨T110, L110, k110, n110⟩, -, X110, ⟨Lc110, hQ110, l110, y110, z110⟩, st110⟩ := Jvm.LawKit.callS X106 hx (y := (⟨"com/example/minisum/minisum/DistanceSumOrderPinLaw", "before", "(DD)Z"⟩ : MethodName)) hown (mvT hZ (own_w hw 19 rfl)) (mvT hZ (own_w hw 20 rfl)) (mvT hZ (own_w hw 2 rfl)) (mvT hZ (own_w hw 21 rfl)) (by decide) (backOf (W := 1) (rmm4 l Z a0 hw [] (own_unb r1) (own_unb r2) h0 n0 Z0 ) hZ (own_w hw 21 rfl) (own_w hw 2 rfl) (by decide) (by decide)) (g := (mkF m 81 #[.val (.long q0), .second, .val (.long q1), .second, .val (.int p2), .val (.long r1), .second, .val (.long r2), .second, .val (.double (own_unb r1)), .second, .val (.double (own_unb r2)), .second, .val (.long r1), .second, .val (.long r2), .second] [(.double (own_unb r2)), (.double (own_unb r1)), (.int 0)])) rfl (by rw [hml]; rfl) (argsL := [(.double (own_unb r1)), (.double (own_unb r2))]) (rest := [(.int 0)]) (lenOf pd4 rfl) rfl (by show 2 * 0 + _ ≤ _; exact Nat.le_of_eq rfl) (hb hby at_81) (fun _ _ => ⟨rfl, P106_0, (by decide : 0 + 0 ≤ _), (by decide : 0 + 0 ≤ _)⟩)
    dsimp only [Pt.U, Pt.locs, Pt.cells, Pt.slots] at X110 l110 y110 z110 st110 hQ110
    subst l110 y110 z110
    obtain ⟨rfl, Nq110, P110_0⟩ := hQ110
    have N110 := Fr.app N106 Nq110
    have pre111 : ∀ t, Steps p.tables e below (T110.setTop (mkF m 92 #[.val (.long q0), .second, .val (.long q1), .second, .val (.int p2), .val (.long r1), .second, .val (.long r2), .second, .val (.double (own_unb r1)), .second, .val (.double (own_unb r2)), .second, .val (.long r1), .second, .val (.long r2), .second] [(.int (lcmpW r2 r1))])) t → Steps p.tables e below (s₁.setTop (mkF m 0 #[.val (.long q0), .second, .val (.long q1), .second, .val (.int p2), .unset, .unset, .unset, .unset, .unset, .unset, .unset, .unset, .unset, .unset, .unset, .unset] [])) t := by
      intro t kt
      refine pre107 _ ?_
      show own_S p e below T106 m 69 #[.val (.long q0), .second, .val (.long q1), .second, .val (.int p2), .val (.long r1), .second, .val (.long r2), .second, .val (.double (own_unb r1)), .second, .val (.double (own_unb r2)), .second, .val (.long r1), .second, .val (.long r2), .second] [(.int (lcmpW r1 r2))] _
      refine XS.ifYes X106.here hx rfl (pc0 := 69) (pc' := 76) rfl (hb hby at_69) rfl ((if0 _ _).trans (flt (h12 : ¬ ((lcmpW r1 r2) < (0 : Int32)))).2.1) (by decide) (by decide) ?_
      show own_S p e below T106 m 76 #[.val (.long q0), .second, .val (.long q1), .second, .val (.int p2), .val (.long r1), .second, .val (.long r2), .second, .val (.double (own_unb r1)), .second, .val (.double (own_unb r2)), .second, .val (.long r1), .second, .val (.long r2), .second] [] _
      refine XS.iconst X106.here hx rfl (hb hby at_76) ?_
      show own_S p e below T106 m 77 #[.val (.long q0), .second, .val (.long q1), .second, .val (.int p2), .val (.long r1), .second, .val (.long r2), .second, .val (.double (own_unb r1)), .second, .val (.double (own_unb r2)), .second, .val (.long r1), .second, .val (.long r2), .second] [(.int 0)] _
      refine XS.dload X106.here hx rfl (hb hby at_77) rfl ?_
      show own_S p e below T106 m 79 #[.val (.long q0), .second, .val (.long q1), .second, .val (.int p2), .val (.long r1), .second, .val (.long r2), .second, .val (.double (own_unb r1)), .second, .val (.double (own_unb r2)), .second, .val (.long r1), .second, .val (.long r2), .second] [(.double (own_unb r1)), (.int 0)] _
      refine XS.dload X106.here hx rfl (hb hby at_79) rfl ?_
      show own_S p e below T106 m 81 #[.val (.long q0), .second, .val (.long q1), .second, .val (.int p2), .val (.long r1), .second, .val (.long r2), .second, .val (.double (own_unb r1)), .second, .val (.double (own_unb r2)), .second, .val (.long r1), .second, .val (.long r2), .second] [(.double (own_unb r2)), (.double (own_unb r1)), (.int 0)] _
      refine st110 _ ?_
      show own_S p e below T110 m 84 #[.val (.long q0), .second, .val (.long q1), .second, .val (.int p2), .val (.long r1), .second, .val (.long r2), .second, .val (.double (own_unb r1)), .second, .val (.double (own_unb r2)), .second, .val (.long r1), .second, .val (.long r2), .second] [(.int (own_bef (own_unb r1) (own_unb r2))), (.int 0)] _
      refine reI (own_bef0 b1.1 b1.2 b2.1 b2.2 (fun q => h12 ((lw_lt _ _).mpr q)) : (own_bef (own_unb r1) (own_unb r2)) = (0 : Int32)) ?_
      show own_S p e below T110 m 84 #[.val (.long q0), .second, .val (.long q1), .second, .val (.int p2), .val (.long r1), .second, .val (.long r2), .second, .val (.double (own_unb r1)), .second, .val (.double (own_unb r2)), .second, .val (.long r1), .second, .val (.long r2), .second] [(.int 0), (.int 0)] _
      refine XS.icmpNo X110.here hx rfl (hb hby at_84) rfl (teq (by decide : (0 : Int32) = (0 : Int32))).2 ?_
      show own_S p e below T110 m 87 #[.val (.long q0), .second, .val (.long q1), .second, .val (.int p2), .val (.long r1), .second, .val (.long r2), .second, .val (.double (own_unb r1)), .second, .val (.double (own_unb r2)), .second, .val (.long r1), .second, .val (.long r2), .second] [] _
      refine XS.lload X110.here hx rfl (hb hby at_87) rfl ?_
      show own_S p e below T110 m 89 #[.val (.long q0), .second, .val (.long q1), .second, .val (.int p2), .val (.long r1), .second, .val (.long r2), .second, .val (.double (own_unb r1)), .second, .val (.double (own_unb r2)), .second, .val (.long r1), .second, .val (.long r2), .second] [(.long r2)] _
      refine XS.lload X110.here hx rfl (hb hby at_89) rfl ?_
      show own_S p e below T110 m 91 #[.val (.long q0), .second, .val (.long q1), .second, .val (.int p2), .val (.long r1), .second, .val (.long r2), .second, .val (.double (own_unb r1)), .second, .val (.double (own_unb r2)), .second, .val (.long r1), .second, .val (.long r2), .second] [(.long r1), (.long r2)] _
      refine XS.lcmp X110.here hx rfl (hb hby at_91) rfl ?_
      exact kt
    by_cases h21 : (lcmpW r2 r1) < (0 : Int32)
    · skip
      obtain ⟨_, _, ⟨T112, L112, k112, n112⟩, -, X112, ⟨Lc112, hQ112, l112, y112, z112⟩, st112⟩ := Jvm.LawKit.callS X110 hx (y := (⟨"com/example/minisum/minisum/DistanceSumOrderPinLaw", "before", "(DD)Z"⟩ : MethodName)) hown (mvT hZ (own_w hw 19 rfl)) (mvT hZ (own_w hw 20 rfl)) (mvT hZ (own_w hw 2 rfl)) (mvT hZ (own_w hw 21 rfl)) (by decide) (backOf (W := 1) (rmm4 l Z a0 hw [] (own_unb r2) (own_unb r1) h0 n0 Z0 ) hZ (own_w hw 21 rfl) (own_w hw 2 rfl) (by decide) (by decide)) (g := (mkF m 104 #[.val (.long q0), .second, .val (.long q1), .second, .val (.int p2), .val (.long r1), .second, .val (.long r2), .second, .val (.double (own_unb r1)), .second, .val (.double (own_unb r2)), .second, .val (.long r1), .second, .val (.long r2), .second] [(.double (own_unb r1)), (.double (own_unb r2)), (.int 1)])) rfl (by rw [hml]; rfl) (argsL := [(.double (own_unb r2)), (.double (own_unb r1))]) (rest := [(.int 1)]) (lenOf pd4 rfl) rfl (by show 2 * 0 + _ ≤ _; exact Nat.le_of_eq rfl) (hb hby at_104) (fun _ _ => ⟨rfl, P110_0, (by decide : 0 + 0 ≤ _), (by decide : 0 + 0 ≤ _)⟩)
      dsimp only [Pt.U, Pt.locs, Pt.cells, Pt.slots] at X112 l112 y112 z112 st112 hQ112
      subst l112 y112 z112
      obtain ⟨rfl, Nq112, P112_0⟩ := hQ112
      have N112 := Fr.app N110 Nq112
      obtain ⟨fs, hr, hrun, hended, hW, hsame⟩ := X112.leave (v := some (.int 1)) (fun h => by rw [Bd.returns] at h; cases h)
      refine ⟨_, _, pre0 _ (pre111 _ ?_), hrun, hended, _, _, rfl, ?_, ⟨_, rfl⟩, hW, hsame.mono (by decide) (by decide)⟩
      · show own_S p e below T110 m 92 #[.val (.long q0), .second, .val (.long q1), .second, .val (.int p2), .val (.long r1), .second, .val (.long r2), .second, .val (.double (own_unb r1)), .second, .val (.double (own_unb r2)), .second, .val (.long r1), .second, .val (.long r2), .second] [(.int (lcmpW r2 r1))] _
        refine XS.ifNo X110.here hx rfl (hb hby at_92) rfl ((if0 _ _).trans (tlt (h21 : (lcmpW r2 r1) < (0 : Int32))).2.1) ?_
        show own_S p e below T110 m 95 #[.val (.long q0), .second, .val (.long q1), .second, .val (.int p2), .val (.long r1), .second, .val (.long r2), .second, .val (.double (own_unb r1)), .second, .val (.double (own_unb r2)), .second, .val (.long r1), .second, .val (.long r2), .second] [] _
        refine XS.iconst X110.here hx rfl (hb hby at_95) ?_
        show own_S p e below T110 m 96 #[.val (.long q0), .second, .val (.long q1), .second, .val (.int p2), .val (.long r1), .second, .val (.long r2), .second, .val (.double (own_unb r1)), .second, .val (.double (own_unb r2)), .second, .val (.long r1), .second, .val (.long r2), .second] [(.int 1)] _
        refine XS.goto X110.here hx rfl (pc0 := 96) (pc' := 100) rfl (hb hby at_96) (by decide) (by decide) ?_
        show own_S p e below T110 m 100 #[.val (.long q0), .second, .val (.long q1), .second, .val (.int p2), .val (.long r1), .second, .val (.long r2), .second, .val (.double (own_unb r1)), .second, .val (.double (own_unb r2)), .second, .val (.long r1), .second, .val (.long r2), .second] [(.int 1)] _
        refine XS.dload X110.here hx rfl (hb hby at_100) rfl ?_
        show own_S p e below T110 m 102 #[.val (.long q0), .second, .val (.long q1), .second, .val (.int p2), .val (.long r1), .second, .val (.long r2), .second, .val (.double (own_unb r1)), .second, .val (.double (own_unb r2)), .second, .val (.long r1), .second, .val (.long r2), .second] [(.double (own_unb r2)), (.int 1)] _
        refine XS.dload X110.here hx rfl (hb hby at_102) rfl ?_
        show own_S p e below T110 m 104 #[.val (.long q0), .second, .val (.long q1), .second, .val (.int p2), .val (.long r1), .second, .val (.long r2), .second, .val (.double (own_unb r1)), .second, .val (.double (own_unb r2)), .second, .val (.long r1), .second, .val (.long r2), .second] [(.double (own_unb r1)), (.double (own_unb r2)), (.int 1)] _
        refine st112 _ ?_
        show own_S p e below T112 m 107 #[.val (.long q0), .second, .val (.long q1), .second, .val (.int p2), .val (.long r1), .second, .val (.long r2), .second, .val (.double (own_unb r1)), .second, .val (.double (own_unb r2)), .second, .val (.long r1), .second, .val (.long r2), .second] [(.int (own_bef (own_unb r2) (own_unb r1))), (.int 1)] _
        refine reI (own_bef1 b2.1 b2.2 b1.1 b1.2 ((lw_lt _ _).mp h21) : (own_bef (own_unb r2) (own_unb r1)) = (1 : Int32)) ?_
        show own_S p e below T112 m 107 #[.val (.long q0), .second, .val (.long q1), .second, .val (.int p2), .val (.long r1), .second, .val (.long r2), .second, .val (.double (own_unb r1)), .second, .val (.double (own_unb r2)), .second, .val (.long r1), .second, .val (.long r2), .second] [(.int 1), (.int 1)] _
        refine XS.icmpNo X112.here hx rfl (hb hby at_107) rfl (teq (by decide : (1 : Int32) = (1 : Int32))).2 ?_
        show own_S p e below T112 m 110 #[.val (.long q0), .second, .val (.long q1), .second, .val (.int p2), .val (.long r1), .second, .val (.long r2), .second, .val (.double (own_unb r1)), .second, .val (.double (own_unb r2)), .second, .val (.long r1), .second, .val (.long r2), .second] [] _
        refine XS.iconst X112.here hx rfl (hb hby at_110) ?_
        show own_S p e below T112 m 111 #[.val (.long q0), .second, .val (.long q1), .second, .val (.int p2), .val (.long r1), .second, .val (.long r2), .second, .val (.double (own_unb r1)), .second, .val (.double (own_unb r2)), .second, .val (.long r1), .second, .val (.long r2), .second] [(.int 1)] _
        refine XS.goto X112.here hx rfl (pc0 := 111) (pc' := 115) rfl (hb hby at_111) (by decide) (by decide) ?_
        show own_S p e below T112 m 115 #[.val (.long q0), .second, .val (.long q1), .second, .val (.int p2), .val (.long r1), .second, .val (.long r2), .second, .val (.double (own_unb r1)), .second, .val (.double (own_unb r2)), .second, .val (.long r1), .second, .val (.long r2), .second] [(.int 1)] _
        exact retN X112 hx (t := .boolean) Bd.returns (by simp) (hb hby at_115) hr
      · show Qm0 Z q0 q1 p2 h0 n0 _ T112.heap _
        rw [P112_0]
        exact ⟨rfl, N112⟩
    · skip
      obtain ⟨_, _, ⟨T113, L113, k113, n113⟩, -, X113, ⟨Lc113, hQ113, l113, y113, z113⟩, st113⟩ := Jvm.LawKit.callS X110 hx (y := (⟨"com/example/minisum/minisum/DistanceSumOrderPinLaw", "before", "(DD)Z"⟩ : MethodName)) hown (mvT hZ (own_w hw 19 rfl)) (mvT hZ (own_w hw 20 rfl)) (mvT hZ (own_w hw 2 rfl)) (mvT hZ (own_w hw 21 rfl)) (by decide) (backOf (W := 1) (rmm4 l Z a0 hw [] (own_unb r2) (own_unb r1) h0 n0 Z0 ) hZ (own_w hw 21 rfl) (own_w hw 2 rfl) (by decide) (by decide)) (g := (mkF m 104 #[.val (.long q0), .second, .val (.long q1), .second, .val (.int p2), .val (.long r1), .second, .val (.long r2), .second, .val (.double (own_unb r1)), .second, .val (.double (own_unb r2)), .second, .val (.long r1), .second, .val (.long r2), .second] [(.double (own_unb r1)), (.double (own_unb r2)), (.int 0)])) rfl (by rw [hml]; rfl) (argsL := [(.double (own_unb r2)), (.double (own_unb r1))]) (rest := [(.int 0)]) (lenOf pd4 rfl) rfl (by show 2 * 0 + _ ≤ _; exact Nat.le_of_eq rfl) (hb hby at_104) (fun _ _ => ⟨rfl, P110_0, (by decide : 0 + 0 ≤ _), (by decide : 0 + 0 ≤ _)⟩)
      dsimp only [Pt.U, Pt.locs, Pt.cells, Pt.slots] at X113 l113 y113 z113 st113 hQ113
      subst l113 y113 z113
      obtain ⟨rfl, Nq113, P113_0⟩ := hQ113
      have N113 := Fr.app N110 Nq113
      obtain ⟨fs, hr, hrun, hended, hW, hsame⟩ := X113.leave (v := some (.int 1)) (fun h => by rw [Bd.returns] at h; cases h)
      refine ⟨_, _, pre0 _ (pre111 _ ?_), hrun, hended, _, _, rfl, ?_, ⟨_, rfl⟩, hW, hsame.mono (by decide) (by decide)⟩
      · show own_S p e below T110 m 92 #[.val (.long q0), .second, .val (.long q1), .second, .val (.int p2), .val (.long r1), .second, .val (.long r2), .second, .val (.double (own_unb r1)), .second, .val (.double (own_unb r2)), .second, .val (.long r1), .second, .val (.long r2), .second] [(.int (lcmpW r2 r1))] _
        refine XS.ifYes X110.here hx rfl (pc0 := 92) (pc' := 99) rfl (hb hby at_92) rfl ((if0 _ _).trans (flt (h21 : ¬ ((lcmpW r2 r1) < (0 : Int32)))).2.1) (by decide) (by decide) ?_
        show own_S p e below T110 m 99 #[.val (.long q0), .second, .val (.long q1), .second, .val (.int p2), .val (.long r1), .second, .val (.long r2), .second, .val (.double (own_unb r1)), .second, .val (.double (own_unb r2)), .second, .val (.long r1), .second, .val (.long r2), .second] [] _
        refine XS.iconst X110.here hx rfl (hb hby at_99) ?_
        show own_S p e below T110 m 100 #[.val (.long q0), .second, .val (.long q1), .second, .val (.int p2), .val (.long r1), .second, .val (.long r2), .second, .val (.double (own_unb r1)), .second, .val (.double (own_unb r2)), .second, .val (.long r1), .second, .val (.long r2), .second] [(.int 0)] _
        refine XS.dload X110.here hx rfl (hb hby at_100) rfl ?_
        show own_S p e below T110 m 102 #[.val (.long q0), .second, .val (.long q1), .second, .val (.int p2), .val (.long r1), .second, .val (.long r2), .second, .val (.double (own_unb r1)), .second, .val (.double (own_unb r2)), .second, .val (.long r1), .second, .val (.long r2), .second] [(.double (own_unb r2)), (.int 0)] _
        refine XS.dload X110.here hx rfl (hb hby at_102) rfl ?_
        show own_S p e below T110 m 104 #[.val (.long q0), .second, .val (.long q1), .second, .val (.int p2), .val (.long r1), .second, .val (.long r2), .second, .val (.double (own_unb r1)), .second, .val (.double (own_unb r2)), .second, .val (.long r1), .second, .val (.long r2), .second] [(.double (own_unb r1)), (.double (own_unb r2)), (.int 0)] _
        refine st113 _ ?_
        show own_S p e below T113 m 107 #[.val (.long q0), .second, .val (.long q1), .second, .val (.int p2), .val (.long r1), .second, .val (.long r2), .second, .val (.double (own_unb r1)), .second, .val (.double (own_unb r2)), .second, .val (.long r1), .second, .val (.long r2), .second] [(.int (own_bef (own_unb r2) (own_unb r1))), (.int 0)] _
        refine reI (own_bef0 b2.1 b2.2 b1.1 b1.2 (fun q => h21 ((lw_lt _ _).mpr q)) : (own_bef (own_unb r2) (own_unb r1)) = (0 : Int32)) ?_
        show own_S p e below T113 m 107 #[.val (.long q0), .second, .val (.long q1), .second, .val (.int p2), .val (.long r1), .second, .val (.long r2), .second, .val (.double (own_unb r1)), .second, .val (.double (own_unb r2)), .second, .val (.long r1), .second, .val (.long r2), .second] [(.int 0), (.int 0)] _
        refine XS.icmpNo X113.here hx rfl (hb hby at_107) rfl (teq (by decide : (0 : Int32) = (0 : Int32))).2 ?_
        show own_S p e below T113 m 110 #[.val (.long q0), .second, .val (.long q1), .second, .val (.int p2), .val (.long r1), .second, .val (.long r2), .second, .val (.double (own_unb r1)), .second, .val (.double (own_unb r2)), .second, .val (.long r1), .second, .val (.long r2), .second] [] _
        refine XS.iconst X113.here hx rfl (hb hby at_110) ?_
        show own_S p e below T113 m 111 #[.val (.long q0), .second, .val (.long q1), .second, .val (.int p2), .val (.long r1), .second, .val (.long r2), .second, .val (.double (own_unb r1)), .second, .val (.double (own_unb r2)), .second, .val (.long r1), .second, .val (.long r2), .second] [(.int 1)] _
        refine XS.goto X113.here hx rfl (pc0 := 111) (pc' := 115) rfl (hb hby at_111) (by decide) (by decide) ?_
        show own_S p e below T113 m 115 #[.val (.long q0), .second, .val (.long q1), .second, .val (.int p2), .val (.long r1), .second, .val (.long r2), .second, .val (.double (own_unb r1)), .second, .val (.double (own_unb r2)), .second, .val (.long r1), .second, .val (.long r2), .second] [(.int 1)] _
        exact retN X113 hx (t := .boolean) Bd.returns (by simp) (hb hby at_115) hr
      · show Qm0 Z q0 q1 p2 h0 n0 _ T113.heap _
        rw [P113_0]
        exact ⟨rfl, N113⟩
set_option maxRecDepth 65536 in
set_option maxHeartbeats 40000000 in
theorem comes_1 {Post : Tables → Env → Array Value → State → Outcome → State → Prop} (hpost : ∀ tb e args s v u, (limb_1_1.after args s (.returned v) u = true ∧ limb_1_2.after args s (.returned v) u = true ∧ True) → FrameEnd s (.returned v) u (Jvm.fieldLocs frame_1_writes args s ++ Jvm.arrayLocs frame_1_arrays args s ++ Jvm.staticLocs frame_1_statics s) 0 0 → Post tb e args s (.returned v) u) :
    ArmFor flags0 classFile x code maxLocals ret World_1 tables_1 room_1 Calls_1 rest_1 Pre_1 Post := by
  intro l hfl _ _ p e ha hc hk s m args below hf hA hF happ hP
  obtain ⟨hcalls, hrest, hpre⟩ := hP
  obtain ⟨-, -, -, hnamed, -, -, -, hat⟩ := (Spec.applies_iff hf).mp happ
  obtain ⟨hg, hn⟩ := and_e (Cond.before_iff.mp (show (Jvm.Cond.and given_1 narrow_1).before args s = true from hpre))
  obtain ⟨hcount, hg0⟩ := and_e hg
  obtain ⟨hv0, hg1⟩ := and_e hg0
  obtain ⟨hv1, hg2⟩ := and_e hg1
  obtain ⟨w0, w1, w2, rfl⟩ : ∃ w0 w1 w2 : Value, args = #[w0, w1, w2] := by
    have hs : args.size = 3 := by simpa [Cond.value, given_1] using hcount
    obtain ⟨L⟩ := args
    match L, hs with
    | [w0, w1, w2], _ => exact ⟨w0, w1, w2, rfl⟩
  have hw := fun d (hd : d ∈ tables_1) => atoms_spec (ws := Jvm.Cond.code x code maxLocals ret :: tables_1) hat d (List.mem_cons_of_mem _ hd)
  have hfit : Fit s := fun {y c} hc i hi => by
    obtain ⟨ha, rfl⟩ := Array.getElem?_eq_some_iff.mp hc
    have q := List.all_eq_true.mp ((Array.all_eq_true_iff_forall_mem.mp hF) _ (Array.getElem_mem ha)) i (List.mem_range.mpr hi)
    simpa [Array.getElem?_eq_getElem hi] using q
  obtain ⟨i0, ei0⟩ := isL_v hv0
  obtain rfl : w0 = (.long i0) := Option.some.inj ei0
  obtain ⟨i1, ei1⟩ := isL_v hv1
  obtain rfl : w1 = (.long i1) := Option.some.inj ei1
  obtain ⟨i2, ei2⟩ := is_v hg2
  obtain rfl : w2 = (.int i2) := Option.some.inj ei2
  obtain ⟨n, o, h1, h2, h3, _, L, rfl, ⟨rfl, N⟩, hq⟩ := rmm0 l s _ hw tables_1 i0 i1 i2 s.heap s.heap.size (Nat.le_refl _)  p e ha hc hk s m _ below hf ((Spec.applies_iff_loose hf).mp happ).1 ⟨rfl, State.Warmed39.refl s, rfl⟩ trivial
  refine ⟨n, _, h1, h2, h3, hpost _ _ _ _ _ _ ⟨Cond.after_iff.mpr rfl, Cond.after_iff.mpr (eq_i res_at (Term.int_eval (1)) rfl), trivial⟩ ⟨hq.1, hq.2.1, (hq.2.2.sift fun y hy => Or.inr (N y hy)).mono (by decide) (by decide)⟩⟩
theorem main_1_1 : Claimed_1_1 := comes_1 fun _ _ _ _ _ _ h hF => ⟨h.1, hF⟩
theorem main_1_2 : Claimed_1_2 := comes_1 fun _ _ _ _ _ _ h hF => ⟨h.2.1, hF⟩
end Jvm.Pilot.@@N@@
namespace Jvm.Pilot.@@N@@
open Jvm Jvm.ClassFile Sem Op Lib Jvm.Free Jvm.Stand Jvm.Pilot.@@N@@.Jvm.D
/-! MADE BY PROGRAM (witnessworld.py) out of the Statement's table words and the real class files: 14 classes; the members and pool entries that the words name. The judged class is class 1, her method 4. -/
namespace start1
open Jvm.ClassFile
def u (s : String) : CpInfo := .utf8 (stringToUtf16 s)
/-- a pool by its gaps: so many unusable entries, then the entry; so many at the end -/
def gap : Nat → List CpInfo → List CpInfo
  | 0, r => r
  | n + 1, r => .unusable :: gap n r
def poolList (es : List (Nat × CpInfo)) (last : Nat) : List CpInfo := es.foldr (fun e r => gap e.1 (e.2 :: r)) (gap last [])
def pool (es : List (Nat × CpInfo)) (last : Nat) : Array CpInfo := ⟨poolList es last⟩
def fileOf (pool : Array CpInfo) (this : Nat) (attrs : Array Attribute := #[]) (ms : Array MethodInfo := #[]) (fl : Nat := 33) (sup : Nat := 0) (ifs : Array Nat := #[]) (fds : Array FieldInfo := #[]) : ClassFile where
  minorVersion := 0
  majorVersion := 65
  constantPool := pool
  accessFlags := fl
  thisClass := this
  superClass := sup
  interfaces := ifs
  fields := fds
  methods := ms
  attributes := attrs
def plain (name : String) (sup : Option ClassId) : Class where
  name := name
  kind := .ordinary
  loader := none
  accessFlags := 33
  super := sup
  interfaces := #[]
  cf := none
  fields := #[]
  methods := #[]
  instanceTypes := #[]
  staticTypes := #[]
  resolved := #[]
  callSites := []
  init := .initialized
  statics := none
  mirror := none

def pool0 : Array CpInfo := pool [(5, u "<init>"), (0, u "()V"), (1, .class_ 10), (1, u "java/lang/Object")] 113

def k0m0 : Method := { name := "<init>", desc := "()V", sig := { parameters := [], returnType := none }, accessFlags := 1, code := none }
/-- java/lang/Object -/
def k0 : Class := { plain "java/lang/Object" none with
  accessFlags := 33
  interfaces := #[]
  cf := some (fileOf pool0 8 #[] #[{ accessFlags := 1, nameIndex := 5, descriptorIndex := 6, attributes := #[] }] 33 0 #[] #[])
  fields := #[]
  methods := #[k0m0]
  instanceTypes := #[]
  staticTypes := #[]
  resolved := Array.replicate 124 none
  statics := none }

def pool1 : Array CpInfo := pool [(2, .class_ 4), (1, u "java/lang/Object"), (0, u "<init>"), (0, u "()V"), (0, .long 9218868437227405313), (1, .methodref 10 11), (0, .class_ 12), (0, .nameAndType 13 14), (0, u "com/example/minisum/minisum/DistanceSumOrderPinLaw"), (0, u "negativeZero"), (0, u "(D)Z"), (0, .methodref 10 16), (0, .nameAndType 17 18), (0, u "toOrderRange"), (0, u "(JI)J"), (0, .methodref 20 21), (0, .class_ 22), (0, .nameAndType 23 24), (0, u "com/example/minisum/minisum/DistanceSum"), (0, u "unorder"), (0, u "(J)D"), (0, .methodref 20 26), (0, .nameAndType 27 28), (0, u "order"), (0, u "(D)J"), (0, .methodref 10 30), (0, .nameAndType 31 32), (0, u "before"), (0, u "(DD)Z"), (3, u "law"), (0, u "(JJI)Z")] 2

def k1m0 : Method := { name := "<init>", desc := "()V", sig := { parameters := [], returnType := none }, accessFlags := 2, code := none }
def k1c1 : Code := { maxStack := 4, maxLocals := 5, code := method_2_code, exceptionTable := #[], attributes := #[] }
def k1m1 : Method := { name := "toOrderRange", desc := "(JI)J", sig := { parameters := [.long, .int], returnType := some .long }, accessFlags := 10, code := some k1c1 }
def k1c2 : Code := { maxStack := 4, maxLocals := 2, code := method_3_code, exceptionTable := #[], attributes := #[] }
def k1m2 : Method := { name := "negativeZero", desc := "(D)Z", sig := { parameters := [.double], returnType := some .boolean }, accessFlags := 10, code := some k1c2 }
def k1c3 : Code := { maxStack := 4, maxLocals := 4, code := method_4_code, exceptionTable := #[], attributes := #[] }
def k1m3 : Method := { name := "before", desc := "(DD)Z", sig := { parameters := [.double, .double], returnType := some .boolean }, accessFlags := 10, code := some k1c3 }
def k1c4 : Code := { maxStack := 5, maxLocals := 17, code := code, exceptionTable := #[], attributes := #[] }
def k1m4 : Method := { name := "law", desc := "(JJI)Z", sig := { parameters := [.long, .long, .int], returnType := some .boolean }, accessFlags := 9, code := some k1c4 }
/-- com/example/minisum/minisum/DistanceSumOrderPinLaw -/
def k1 : Class := { plain "com/example/minisum/minisum/DistanceSumOrderPinLaw" (some 0) with
  accessFlags := 49
  interfaces := #[]
  cf := some (fileOf pool1 10 #[] #[{ accessFlags := 2, nameIndex := 5, descriptorIndex := 6, attributes := #[] }, { accessFlags := 10, nameIndex := 17, descriptorIndex := 18, attributes := #[] }, { accessFlags := 10, nameIndex := 13, descriptorIndex := 14, attributes := #[] }, { accessFlags := 10, nameIndex := 31, descriptorIndex := 32, attributes := #[] }, { accessFlags := 9, nameIndex := 36, descriptorIndex := 37, attributes := #[] }] 49 2 #[] #[])
  fields := #[]
  methods := #[k1m0, k1m1, k1m2, k1m3, k1m4]
  instanceTypes := #[]
  staticTypes := #[]
  resolved := Array.replicate 40 none
  statics := none }

def pool2 : Array CpInfo := pool [(2, .class_ 4), (1, u "java/lang/Object"), (2, .class_ 8), (0, u "java/lang/Double"), (46, .class_ 57), (1, u "com/example/minisum/minisum/DistanceSum"), (3, u "originX"), (0, u "D"), (2, u "originY"), (6, u "scale"), (0, u "I"), (8, u "distance"), (0, u "Lcom/example/minisum/minisum/Distance;"), (2, u "demand"), (0, u "Ljava/util/List;"), (6, u "xs"), (0, u "[D"), (2, u "ys"), (2, u "weights"), (17, u "totalWeight"), (13, .class_ 134), (0, u "com/example/minisum/minisum/DistanceSum$Line"), (33, .methodref 7 169), (0, .nameAndType 170 171), (0, u "doubleToRawLongBits"), (0, u "(D)J"), (2, .long 9223372036854775807), (1, .methodref 7 177), (0, .nameAndType 178 179), (0, u "longBitsToDouble"), (0, u "(J)D"), (94, u "order"), (0, u "unorder")] 36

def k2c0 : Code := { maxStack := 4, maxLocals := 4, code := prog_4_method_10_code, exceptionTable := #[], attributes := #[] }
def k2m0 : Method := { name := "order", desc := "(D)J", sig := { parameters := [.double], returnType := some .long }, accessFlags := 8, code := some k2c0 }
def k2c1 : Code := { maxStack := 4, maxLocals := 2, code := prog_4_method_11_code, exceptionTable := #[], attributes := #[] }
def k2m1 : Method := { name := "unorder", desc := "(J)D", sig := { parameters := [.long], returnType := some .double }, accessFlags := 8, code := some k2c1 }
/-- com/example/minisum/minisum/DistanceSum -/
def k2 : Class := { plain "com/example/minisum/minisum/DistanceSum" (some 0) with
  accessFlags := 48
  interfaces := #[]
  cf := some (fileOf pool2 55 #[.nestMembers #[133]] #[{ accessFlags := 8, nameIndex := 274, descriptorIndex := 171, attributes := #[] }, { accessFlags := 8, nameIndex := 275, descriptorIndex := 179, attributes := #[] }] 48 2 #[] #[{ accessFlags := 16, nameIndex := 82, descriptorIndex := 83, attributes := #[] }, { accessFlags := 16, nameIndex := 94, descriptorIndex := 95, attributes := #[] }, { accessFlags := 16, nameIndex := 98, descriptorIndex := 95, attributes := #[] }, { accessFlags := 16, nameIndex := 101, descriptorIndex := 95, attributes := #[] }, { accessFlags := 16, nameIndex := 119, descriptorIndex := 62, attributes := #[] }, { accessFlags := 18, nameIndex := 86, descriptorIndex := 87, attributes := #[] }, { accessFlags := 18, nameIndex := 61, descriptorIndex := 62, attributes := #[] }, { accessFlags := 18, nameIndex := 65, descriptorIndex := 62, attributes := #[] }, { accessFlags := 18, nameIndex := 72, descriptorIndex := 73, attributes := #[] }])
  fields := #[{ name := "distance", type := (.object "com/example/minisum/minisum/Distance"), accessFlags := 16, slot := 0, constantValue := 0 }, { name := "xs", type := (.array .double), accessFlags := 16, slot := 1, constantValue := 0 }, { name := "ys", type := (.array .double), accessFlags := 16, slot := 2, constantValue := 0 }, { name := "weights", type := (.array .double), accessFlags := 16, slot := 3, constantValue := 0 }, { name := "totalWeight", type := .double, accessFlags := 16, slot := 4, constantValue := 0 }, { name := "demand", type := (.object "java/util/List"), accessFlags := 18, slot := 5, constantValue := 0 }, { name := "originX", type := .double, accessFlags := 18, slot := 6, constantValue := 0 }, { name := "originY", type := .double, accessFlags := 18, slot := 7, constantValue := 0 }, { name := "scale", type := .int, accessFlags := 18, slot := 8, constantValue := 0 }]
  methods := #[k2m0, k2m1]
  instanceTypes := #[(.object "com/example/minisum/minisum/Distance"), (.array .double), (.array .double), (.array .double), .double, (.object "java/util/List"), .double, .double, .int]
  staticTypes := #[]
  resolved := Array.replicate 312 none
  statics := none }

def pool3 : Array CpInfo := pool [(1, .class_ 2), (0, u "java/io/Serializable"), (0, .class_ 4), (0, u "java/lang/Object")] 2

/-- java/io/Serializable -/
def k3 : Class := { plain "java/io/Serializable" (some 0) with
  accessFlags := 1537
  interfaces := #[]
  cf := some (fileOf pool3 1 #[] #[] 1537 3 #[] #[])
  fields := #[]
  methods := #[]
  instanceTypes := #[]
  staticTypes := #[]
  resolved := Array.replicate 7 none
  statics := none }

def pool4 : Array CpInfo := pool [(2, .class_ 4), (1, u "java/lang/Object"), (0, u "<init>"), (0, u "()V"), (1, .class_ 10), (1, u "java/lang/Number"), (2, .class_ 14), (0, u "java/io/Serializable"), (0, u "serialVersionUID"), (0, u "J")] 20

def k4m0 : Method := { name := "<init>", desc := "()V", sig := { parameters := [], returnType := none }, accessFlags := 1, code := none }
/-- java/lang/Number -/
def k4 : Class := { plain "java/lang/Number" (some 0) with
  accessFlags := 1057
  interfaces := #[3]
  cf := some (fileOf pool4 8 #[] #[{ accessFlags := 1, nameIndex := 5, descriptorIndex := 6, attributes := #[] }] 1057 2 #[13] #[{ accessFlags := 26, nameIndex := 15, descriptorIndex := 16, attributes := #[] }])
  fields := #[{ name := "serialVersionUID", type := .long, accessFlags := 26, slot := 0, constantValue := 0 }]
  methods := #[k4m0]
  instanceTypes := #[]
  staticTypes := #[.long]
  resolved := Array.replicate 37 none
  statics := none }

def pool5 : Array CpInfo := pool [(1, .class_ 2), (0, u "java/lang/Comparable"), (0, .class_ 4), (0, u "java/lang/Object")] 7

/-- java/lang/Comparable -/
def k5 : Class := { plain "java/lang/Comparable" (some 0) with
  accessFlags := 1537
  interfaces := #[]
  cf := some (fileOf pool5 1 #[] #[] 1537 3 #[] #[])
  fields := #[]
  methods := #[]
  instanceTypes := #[]
  staticTypes := #[]
  resolved := Array.replicate 12 none
  statics := none }

def pool6 : Array CpInfo := pool [(1, .class_ 2), (0, u "java/lang/constant/Constable"), (0, .class_ 4), (0, u "java/lang/Object")] 6

/-- java/lang/constant/Constable -/
def k6 : Class := { plain "java/lang/constant/Constable" (some 0) with
  accessFlags := 1537
  interfaces := #[]
  cf := some (fileOf pool6 1 #[] #[] 1537 3 #[] #[])
  fields := #[]
  methods := #[]
  instanceTypes := #[]
  staticTypes := #[]
  resolved := Array.replicate 11 none
  statics := none }

def pool7 : Array CpInfo := pool [(1, .class_ 2), (0, u "java/lang/constant/ConstantDesc"), (0, .class_ 4), (0, u "java/lang/Object")] 32

/-- java/lang/constant/ConstantDesc -/
def k7 : Class := { plain "java/lang/constant/ConstantDesc" (some 0) with
  accessFlags := 1537
  interfaces := #[]
  cf := some (fileOf pool7 1 #[] #[] 1537 3 #[] #[])
  fields := #[]
  methods := #[]
  instanceTypes := #[]
  staticTypes := #[]
  resolved := Array.replicate 37 none
  statics := none }

def pool8 : Array CpInfo := pool [(1, .class_ 2), (0, u "java/lang/Double"), (46, u "(D)J"), (64, .class_ 116), (1, u "java/lang/Number"), (3, u "value"), (0, u "D"), (14, u "doubleToRawLongBits"), (36, u "TYPE"), (0, u "Ljava/lang/Class;"), (0, .class_ 176), (0, u "java/lang/Comparable"), (0, .class_ 178), (0, u "java/lang/constant/Constable"), (0, .class_ 180), (0, u "java/lang/constant/ConstantDesc"), (0, u "POSITIVE_INFINITY"), (3, u "NEGATIVE_INFINITY"), (2, u "NaN"), (2, u "MAX_VALUE"), (0, u "MIN_NORMAL"), (0, u "MIN_VALUE"), (2, u "SIZE"), (0, u "I"), (1, u "PRECISION"), (1, u "MAX_EXPONENT"), (1, u "MIN_EXPONENT"), (1, u "BYTES"), (3, u "serialVersionUID"), (0, u "J"), (48, u "longBitsToDouble"), (0, u "(J)D")] 29

def k8m0 : Method := { name := "doubleToRawLongBits", desc := "(D)J", sig := { parameters := [.double], returnType := some .long }, accessFlags := 265, code := none }
def k8m1 : Method := { name := "longBitsToDouble", desc := "(J)D", sig := { parameters := [.long], returnType := some .double }, accessFlags := 265, code := none }
/-- java/lang/Double -/
def k8 : Class := { plain "java/lang/Double" (some 4) with
  accessFlags := 49
  interfaces := #[5, 6, 7]
  cf := some (fileOf pool8 1 #[] #[{ accessFlags := 265, nameIndex := 136, descriptorIndex := 49, attributes := #[] }, { accessFlags := 265, nameIndex := 259, descriptorIndex := 260, attributes := #[] }] 49 114 #[175, 177, 179] #[{ accessFlags := 25, nameIndex := 181, descriptorIndex := 121, attributes := #[] }, { accessFlags := 25, nameIndex := 185, descriptorIndex := 121, attributes := #[] }, { accessFlags := 25, nameIndex := 188, descriptorIndex := 121, attributes := #[] }, { accessFlags := 25, nameIndex := 191, descriptorIndex := 121, attributes := #[] }, { accessFlags := 25, nameIndex := 192, descriptorIndex := 121, attributes := #[] }, { accessFlags := 25, nameIndex := 193, descriptorIndex := 121, attributes := #[] }, { accessFlags := 25, nameIndex := 196, descriptorIndex := 197, attributes := #[] }, { accessFlags := 25, nameIndex := 199, descriptorIndex := 197, attributes := #[] }, { accessFlags := 25, nameIndex := 201, descriptorIndex := 197, attributes := #[] }, { accessFlags := 25, nameIndex := 203, descriptorIndex := 197, attributes := #[] }, { accessFlags := 25, nameIndex := 205, descriptorIndex := 197, attributes := #[] }, { accessFlags := 25, nameIndex := 173, descriptorIndex := 174, attributes := #[] }, { accessFlags := 18, nameIndex := 120, descriptorIndex := 121, attributes := #[] }, { accessFlags := 26, nameIndex := 209, descriptorIndex := 210, attributes := #[] }])
  fields := #[{ name := "POSITIVE_INFINITY", type := .double, accessFlags := 25, slot := 0, constantValue := 0 }, { name := "NEGATIVE_INFINITY", type := .double, accessFlags := 25, slot := 1, constantValue := 0 }, { name := "NaN", type := .double, accessFlags := 25, slot := 2, constantValue := 0 }, { name := "MAX_VALUE", type := .double, accessFlags := 25, slot := 3, constantValue := 0 }, { name := "MIN_NORMAL", type := .double, accessFlags := 25, slot := 4, constantValue := 0 }, { name := "MIN_VALUE", type := .double, accessFlags := 25, slot := 5, constantValue := 0 }, { name := "SIZE", type := .int, accessFlags := 25, slot := 6, constantValue := 0 }, { name := "PRECISION", type := .int, accessFlags := 25, slot := 7, constantValue := 0 }, { name := "MAX_EXPONENT", type := .int, accessFlags := 25, slot := 8, constantValue := 0 }, { name := "MIN_EXPONENT", type := .int, accessFlags := 25, slot := 9, constantValue := 0 }, { name := "BYTES", type := .int, accessFlags := 25, slot := 10, constantValue := 0 }, { name := "TYPE", type := (.object "java/lang/Class"), accessFlags := 25, slot := 11, constantValue := 0 }, { name := "value", type := .double, accessFlags := 18, slot := 0, constantValue := 0 }, { name := "serialVersionUID", type := .long, accessFlags := 26, slot := 12, constantValue := 0 }]
  methods := #[k8m0, k8m1]
  instanceTypes := #[.double]
  staticTypes := #[.double, .double, .double, .double, .double, .double, .int, .int, .int, .int, .int, (.object "java/lang/Class"), .long]
  resolved := Array.replicate 290 none
  statics := none }

def pool9 : Array CpInfo := pool [(1, u "java/lang/Cloneable"), (0, .class_ 1), (0, u "java/lang/Object"), (0, .class_ 3)] 3

/-- java/lang/Cloneable -/
def k9 : Class := { plain "java/lang/Cloneable" (some 0) with
  accessFlags := 1537
  interfaces := #[]
  cf := some (fileOf pool9 2 #[] #[] 1537 4 #[] #[])
  fields := #[]
  methods := #[]
  instanceTypes := #[]
  staticTypes := #[]
  resolved := Array.replicate 8 none
  statics := none }

/-- the primitive byte -/
def k10 : Class := { plain "byte" none with kind := .primitive 'B', accessFlags := 0x411 }
/-- [B -/
def k11 : Class := { plain "[B" (some 0) with kind := .array 10 .byte, interfaces := #[9, 3], accessFlags := 1041 }

/-- the primitive int -/
def k12 : Class := { plain "int" none with kind := .primitive 'I', accessFlags := 0x411 }
/-- [I -/
def k13 : Class := { plain "[I" (some 0) with kind := .array 12 .int, interfaces := #[9, 3], accessFlags := 1041 }

def heap : Heap := #[]
def classes : Array Class := #[k0, k1, k2, k3, k4, k5, k6, k7, k8, k9, k10, k11, k12, k13]
def interned : List (Array UInt16 × Addr) := []
def slotsUsed : Nat := 0
def theMethod : MethodId := ⟨1, 4⟩
def args0 : Array Value := #[.long 5, .long 6, .int 3]
def aboutOver (below : List Frame) : State where
  vm := { classes := classes, interned := interned.toArray }
  heap := heap
  slotsUsed := slotsUsed
  threads := #[{ frames := .invoking theMethod args0 :: below }]
def below0 : List Frame := [.native { method := ⟨0, 0⟩, args := #[] }]
def about1 : State := aboutOver below0
def p0 : Program := .bare "" "" ""
def e0 : Env := launch0.env 0 0 0
theorem w_frames : about1.frames = Frame.invoking theMethod args0 :: below0 := rfl
set_option maxRecDepth 65536 in
theorem w_args : argsFit about1.vm theMethod args0 = true := by decide +kernel
set_option maxRecDepth 65536 in
theorem w_heap : heapFits about1 = true := by decide +kernel
set_option maxRecDepth 65536 in
theorem w_runnable : about1.curStatus? = some .runnable := by decide +kernel
set_option maxRecDepth 65536 in
theorem w_alone : about1.alone = true := by decide +kernel
set_option maxRecDepth 65536 in
theorem w_named : about1.methodNamed? x = some theMethod := by decide +kernel
set_option maxRecDepth 65536 in
theorem w_hears : about1.hears theMethod below0 = true := by decide +kernel
set_option maxRecDepth 65536 in
theorem w_ripe : about1.ripe theMethod args0 below0 = true := by decide +kernel
theorem w_running : about1.status = .running := rfl
set_option maxRecDepth 65536 in
theorem w_room : about1.hasRoom e0.platform room_1 = true :=
  launch0.hasRoom_least _ room_1 (by decide +kernel) (by decide +kernel) (by decide +kernel) (by decide +kernel) (by decide +kernel) (by decide +kernel)
theorem allAtoms_all (ts : List Jvm.Cond) (a : Array Jvm.Value) (st : Jvm.State) : (allAtoms ts).before a st = ts.all (fun c => c.before a st) := by
  induction ts with
  | nil => rfl
  | cons c t ih =>
    show (Jvm.Cond.and c (allAtoms t)).before a st = _
    rw [Jvm.Cond.before_and, ih, List.all_cons]
def words1 : List Jvm.Cond := Jvm.Cond.code x code maxLocals ret :: tables_1
/-- a 'code' word, met by the world's own term for the bytes: nothing is compared byte by byte -/
theorem code_word {y : MethodName} {bytes : ByteArray} {mx : Nat} {rt : Option FieldType} {a : Array Value} {s : State} {m : MethodId} {meth : Method} {c : Code} (h1 : s.methodNamed? y = some m) (h2 : s.vm.method? m = some meth) (h3 : meth.code = some c) (h4 : c.code = bytes)
    (h5 : (c.maxLocals == mx && c.exceptionTable.isEmpty && decide (c.maxStack ≤ mostOperands) && decide (meth.sig.returnType = rt) && !meth.locks && decide (parseMethodDescriptor y.desc = some meth.sig)) = true) : (Jvm.Cond.code y bytes mx rt).before a s = true := by
  simp only [Bool.and_eq_true, beq_iff_eq, Bool.not_eq_true', decide_eq_true_eq] at h5
  obtain ⟨⟨⟨⟨⟨g1, g2⟩, g3⟩, g4⟩, g5⟩, g6⟩ := h5
  simp [Cond.before, Cond.holds, Cond.value, h1, h2, h3, h4, g1, g2, g3, g4, g5, g6]
def isCode : Jvm.Cond → Bool
  | .code _ _ _ _ => true
  | _ => false
theorem all_split {L : List Jvm.Cond} {P : Jvm.Cond → Bool} (h1 : L.all (fun c => isCode c || P c) = true) (h2 : ∀ c ∈ L.filter isCode, P c = true) : L.all P = true := by
  refine List.all_eq_true.mpr fun c hc => ?_
  have h := List.all_eq_true.mp h1 c hc
  rcases Bool.eq_false_or_eq_true (isCode c) with hi | hi
  · exact h2 c (List.mem_filter.mpr ⟨hc, hi⟩)
  · simpa [hi] using h
set_option maxRecDepth 65536 in
theorem w_c0 : (Jvm.Cond.code x code maxLocals ret).before args0 about1 = true := code_word (m := ⟨1, 4⟩) (meth := k1m4) (c := k1c4) (by decide +kernel) rfl rfl rfl (by decide +kernel)
set_option maxRecDepth 65536 in
theorem w_c1 : (Jvm.Cond.code ({ cls := "com/example/minisum/minisum/DistanceSumOrderPinLaw", name := "toOrderRange", desc := "(JI)J" } : Jvm.MethodName) method_2_code (5 : Nat) (Option.some Jvm.ClassFile.FieldType.long)).before args0 about1 = true := code_word (m := ⟨1, 1⟩) (meth := k1m1) (c := k1c1) (by decide +kernel) rfl rfl rfl (by decide +kernel)
set_option maxRecDepth 65536 in
theorem w_c2 : (Jvm.Cond.code ({ cls := "com/example/minisum/minisum/DistanceSum", name := "unorder", desc := "(J)D" } : Jvm.MethodName) prog_4_method_11_code (2 : Nat) (Option.some Jvm.ClassFile.FieldType.double)).before args0 about1 = true := code_word (m := ⟨2, 1⟩) (meth := k2m1) (c := k2c1) (by decide +kernel) rfl rfl rfl (by decide +kernel)
set_option maxRecDepth 65536 in
theorem w_c3 : (Jvm.Cond.code ({ cls := "com/example/minisum/minisum/DistanceSum", name := "order", desc := "(D)J" } : Jvm.MethodName) prog_4_method_10_code (4 : Nat) (Option.some Jvm.ClassFile.FieldType.long)).before args0 about1 = true := code_word (m := ⟨2, 0⟩) (meth := k2m0) (c := k2c0) (by decide +kernel) rfl rfl rfl (by decide +kernel)
set_option maxRecDepth 65536 in
theorem w_c4 : (Jvm.Cond.code ({ cls := "com/example/minisum/minisum/DistanceSumOrderPinLaw", name := "before", desc := "(DD)Z" } : Jvm.MethodName) method_4_code (4 : Nat) (Option.some Jvm.ClassFile.FieldType.boolean)).before args0 about1 = true := code_word (m := ⟨1, 3⟩) (meth := k1m3) (c := k1c3) (by decide +kernel) rfl rfl rfl (by decide +kernel)
set_option maxRecDepth 65536 in
theorem w_c5 : (Jvm.Cond.code ({ cls := "com/example/minisum/minisum/DistanceSumOrderPinLaw", name := "negativeZero", desc := "(D)Z" } : Jvm.MethodName) method_3_code (2 : Nat) (Option.some Jvm.ClassFile.FieldType.boolean)).before args0 about1 = true := code_word (m := ⟨1, 2⟩) (meth := k1m2) (c := k1c2) (by decide +kernel) rfl rfl rfl (by decide +kernel)
def codes1 : List Jvm.Cond := [Jvm.Cond.code x code maxLocals ret, Jvm.Cond.code ({ cls := "com/example/minisum/minisum/DistanceSumOrderPinLaw", name := "toOrderRange", desc := "(JI)J" } : Jvm.MethodName) method_2_code (5 : Nat) (Option.some Jvm.ClassFile.FieldType.long), Jvm.Cond.code ({ cls := "com/example/minisum/minisum/DistanceSum", name := "unorder", desc := "(J)D" } : Jvm.MethodName) prog_4_method_11_code (2 : Nat) (Option.some Jvm.ClassFile.FieldType.double), Jvm.Cond.code ({ cls := "com/example/minisum/minisum/DistanceSum", name := "order", desc := "(D)J" } : Jvm.MethodName) prog_4_method_10_code (4 : Nat) (Option.some Jvm.ClassFile.FieldType.long), Jvm.Cond.code ({ cls := "com/example/minisum/minisum/DistanceSumOrderPinLaw", name := "before", desc := "(DD)Z" } : Jvm.MethodName) method_4_code (4 : Nat) (Option.some Jvm.ClassFile.FieldType.boolean), Jvm.Cond.code ({ cls := "com/example/minisum/minisum/DistanceSumOrderPinLaw", name := "negativeZero", desc := "(D)Z" } : Jvm.MethodName) method_3_code (2 : Nat) (Option.some Jvm.ClassFile.FieldType.boolean)]
set_option maxRecDepth 65536 in
theorem codes_eq : words1.filter isCode = codes1 := rfl
theorem w_codes : ∀ c ∈ words1.filter isCode, c.before args0 about1 = true := by
  rw [codes_eq]
  intro c hc
  simp only [codes1, List.mem_cons, List.not_mem_nil, or_false] at hc
  rcases hc with rfl | rfl | rfl | rfl | rfl | rfl
  · exact w_c0
  · exact w_c1
  · exact w_c2
  · exact w_c3
  · exact w_c4
  · exact w_c5
set_option maxRecDepth 65536 in
theorem w_t1 : (words1.take 24).all (fun c => isCode c || c.before args0 about1) = true := by decide +kernel
set_option maxRecDepth 65536 in
theorem w_t2 : (words1.drop 24).all (fun c => isCode c || c.before args0 about1) = true := by decide +kernel
theorem w_tables : (allAtoms (Jvm.Cond.code x code maxLocals ret :: tables_1)).before args0 about1 = true := by
  rw [allAtoms_all]
  show words1.all (fun c => c.before args0 about1) = true
  refine all_split ?_ w_codes
  rw [← List.take_append_drop 24 words1, List.all_append, w_t1, w_t2]
  rfl
set_option maxRecDepth 65536 in
theorem w_case : (Jvm.Cond.and given_1 narrow_1).before args0 about1 = true := by decide +kernel
theorem w_applies : (headSpec (Jvm.Cond.code x code maxLocals ret :: tables_1) room_1).applies x e0.platform about1 = true :=
  (Spec.applies_iff w_frames).mpr ⟨w_running, w_runnable, w_alone, w_named, w_hears, w_ripe, w_room, w_tables⟩
theorem atStart : AtStart classFile x code maxLocals ret World_1 tables_1 room_1 Calls_1 rest_1 Pre_1 launch0 p0 e0 about1 theMethod args0 below0 :=
  ⟨lists_1, trivial, launch0.admits_env _ _ _, launch0.least_env, fairChoices_fair.cas, fairChoices_fair.clock, w_frames, w_args, w_heap, w_applies, trivial, trivial, w_case⟩
end start1
theorem witness_1 : WitnessClaimed_1 := ⟨start1.p0, start1.e0, start1.about1, start1.theMethod, start1.args0, start1.below0, start1.atStart⟩
end Jvm.Pilot.@@N@@
