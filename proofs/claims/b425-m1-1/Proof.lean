import JvmDerived
import JvmDerived.Pilot.@@N@@Statement
import JvmDerived.Pilot.@@N@@Code
set_option linter.unusedVariables false
set_option linter.unusedSimpArgs false
namespace Jvm.RoadKit
open Sem ClassFile Op Lib Jvm.Stand Jvm.Free Jvm.LawKit
section New
variable {p : Program} {l : Launch} {e : Env} {R : Room} {s : State} {m : MethodId} {args : Array Value} {below : List Frame} {meth : Method} {c : Code} {T : State} {locs : List Loc} {cells slots : Nat}
theorem retI (X : Stand p l e R s m args below meth c T locs cells slots) (hx : p.tables.exec = Jvm.exec) {pc : Nat} {Ls : Array Slot} {z : Int32} {rest : List Value} (hret : meth.sig.returnType = some .int) (hd : decode c.code pc = .ok (.ireturn, 1)) {fs : List Frame}
    (hl : ∀ (f : JFrame) (acts : List Action), f.method = m → f.locked = none → f.entered = [] → (doReturn e (T.setTop f) acts (some (.int z))).1 = T.setFrames fs) : Steps p.tables e below (T.setTop (mkF m pc Ls (.int z :: rest))) (T.setFrames fs) :=
  retOut X hx hret rfl (Or.inl ⟨rfl, Or.inl rfl, z, rfl⟩) hd hl
theorem retJ (X : Stand p l e R s m args below meth c T locs cells slots) (hx : p.tables.exec = Jvm.exec) {pc : Nat} {Ls : Array Slot} {z : Int64} {rest : List Value} (hret : meth.sig.returnType = some .long) (hd : decode c.code pc = .ok (.lreturn, 1)) {fs : List Frame}
    (hl : ∀ (f : JFrame) (acts : List Action), f.method = m → f.locked = none → f.entered = [] → (doReturn e (T.setTop f) acts (some (.long z))).1 = T.setFrames fs) : Steps p.tables e below (T.setTop (mkF m pc Ls (.long z :: rest))) (T.setFrames fs) :=
  retOut X hx hret rfl (Or.inr (Or.inl ⟨rfl, rfl, z, rfl⟩)) hd hl
theorem retA (X : Stand p l e R s m args below meth c T locs cells slots) (hx : p.tables.exec = Jvm.exec) {pc : Nat} {Ls : Array Slot} {w : Value} {rest : List Value} {t : FieldType} (hret : meth.sig.returnType = some t) (ht : t.isReference = true) (hn : narrow t w = w) (hw : w.isRef = true) (hd : decode c.code pc = .ok (.areturn, 1)) {fs : List Frame}
    (hl : ∀ (f : JFrame) (acts : List Action), f.method = m → f.locked = none → f.entered = [] → (doReturn e (T.setTop f) acts (some w)).1 = T.setFrames fs) : Steps p.tables e below (T.setTop (mkF m pc Ls (w :: rest))) (T.setFrames fs) :=
  retOut X hx hret hn (Or.inr (Or.inr (Or.inr (Or.inr ⟨rfl, ht, hw⟩)))) hd hl
end New
end Jvm.RoadKit
namespace Jvm.Pilot.@@N@@
open Jvm Jvm.ClassFile Sem Op Lib Jvm.Free Jvm.Stand Jvm.LawKit Jvm.RoadKit Bundle Jvm.Pilot.@@N@@.Jvm.D
theorem own_ext {h0 h : Heap} (K : Keep h0 h []) : Ext h0 h := ⟨K.1, fun a c q => K.2.1 a c q nin0⟩

theorem own_ladd {x y : Int64} {a b : Int} (hx : x.toInt = a) (hy : y.toInt = b) (h1 : -9223372036854775808 ≤ a + b) (h2 : a + b < 9223372036854775808) : (x + y).toInt = a + b := by
  have h := c_ladd x y; have r := rng64 (x + y); rw [hx, hy] at h; omega
theorem own_lsub {x y : Int64} {a b : Int} (hx : x.toInt = a) (hy : y.toInt = b) (h1 : -9223372036854775808 ≤ a - b) (h2 : a - b < 9223372036854775808) : (x - y).toInt = a - b := by
  have h := c_lsub x y; have r := rng64 (x - y); rw [hx, hy] at h; omega
theorem own_lmul {x y : Int64} {a b : Int} (hx : x.toInt = a) (hy : y.toInt = b) (h1 : -9223372036854775808 ≤ a * b) (h2 : a * b < 9223372036854775808) : (x * y).toInt = a * b := by
  have h := c_lmul x y; have r := rng64 (x * y); rw [hx, hy] at h; omega
theorem own_ldiv {x y : Int64} {a : Int} (d : Int) (hx : x.toInt = a) (hy : y.toInt = d) (h0 : 0 ≤ a) (h1 : y ≠ -1) : (x / y).toInt = a / d := by
  have h := (c_ldiv x y d hy h1).1 (by omega); rw [hx] at h; exact h
/-- a whole number that isn't negative, as a double: a significand and an exponent -/
theorem own_val (a : Int64) (h0 : 0 ≤ a.toInt) (h1 : a.toInt ≤ 9007199254740992) : ∃ (c : Nat) (q : Int), FP.Core.val64 (FP.l2d a) = .fin false c q ∧ c * 2 ^ q.toNat = a.toInt.toNat * 2 ^ (-q).toNat := by
  have hw : FP.Core.Whole a.toInt (FP.Core.val64 (FP.l2d a)) := FP.Core.l2d_int (by have : (2 : Nat) ^ 53 = 9007199254740992 := by decide
                                                                                    omega)
  have hv : FP.Core.val64 (FP.l2d a) = FP.Core.roundRatio FP.Core.b64 (decide (a.toInt < 0)) a.toInt.natAbs 1 0 := FP.Core.val64_l2d a
  have hs : decide (a.toInt < 0) = false := decide_eq_false (by omega)
  rw [hs] at hv
  rcases FP.Core.roundRatio_cases FP.Core.b64 false a.toInt.natAbs 1 0 with ⟨c, q, e⟩ | e
  · rw [e] at hv
    rw [hv] at hw
    refine ⟨c, q, hv, ?_⟩
    have := FP.Core.whole_natAbs hw
    rw [this]
    congr 1
    omega
  · rw [e] at hv
    rw [hv] at hw
    exact hw.elim
theorem own_quot (a b : Int64) (h0 : 0 ≤ a.toInt) (h1 : a.toInt ≤ 9007199254740992) (h2 : 0 < b.toInt) (h3 : b.toInt ≤ 9007199254740992) : FP.Core.val64 (FP.ddiv (FP.l2d a) (FP.l2d b)) = FP.Core.roundRatio FP.Core.b64 false a.toInt.toNat b.toInt.toNat 0 := by
  obtain ⟨c, q, e1, e2⟩ := own_val a h0 h1
  obtain ⟨d, r, f1, f2⟩ := own_val b (by omega) h3
  have hv : FP.Core.val64 (FP.ddiv (FP.l2d a) (FP.l2d b)) = FP.Core.quotient FP.Core.b64 (FP.Core.val64 (FP.l2d a)) (FP.Core.val64 (FP.l2d b)) := FP.Core.val64_ddiv _ _
  have hB : 0 < b.toInt.toNat := by omega
  have hd : 0 < d := by
    rcases Nat.eq_zero_or_pos d with z | z
    · subst z
      rw [Nat.zero_mul] at f2
      have := Nat.mul_pos hB (Nat.two_pow_pos (-r).toNat)
      omega
    · exact z
  rw [hv, e1, f1]
  show (if d = 0 then _ else FP.Core.roundRatio FP.Core.b64 (false != false) c d (q - r)) = _
  rw [if_neg (by omega)]
  refine FP.Core.roundRatio_congr hd hB ?_
  have p1 := Nat.two_pow_pos (-q).toNat
  have p2 := Nat.two_pow_pos (-r).toNat
  have p3 := Nat.two_pow_pos q.toNat
  have p4 := Nat.two_pow_pos r.toNat
  generalize a.toInt.toNat = A at *
  generalize b.toInt.toNat = B at *
  -- c * 2^q+ = A * 2^q-, d * 2^r+ = B * 2^r-
  have k1 : (2 : Nat) ^ (q - r - 0).toNat * 2 ^ ((-q).toNat + r.toNat) = 2 ^ (0 - (q - r)).toNat * 2 ^ (q.toNat + (-r).toNat) := by
    rw [← Nat.pow_add, ← Nat.pow_add]; congr 1; omega
  refine Nat.eq_of_mul_eq_mul_right (Nat.mul_pos (Nat.two_pow_pos ((-q).toNat + r.toNat)) (Nat.mul_pos p3 p2)) ?_
  calc c * B * 2 ^ (q - r - 0).toNat * (2 ^ ((-q).toNat + r.toNat) * (2 ^ q.toNat * 2 ^ (-r).toNat)) = (c * 2 ^ q.toNat) * (B * 2 ^ (-r).toNat) * (2 ^ (q - r - 0).toNat * 2 ^ ((-q).toNat + r.toNat)) := by ac_rfl
    _ = (A * 2 ^ (-q).toNat) * (d * 2 ^ r.toNat) * (2 ^ (0 - (q - r)).toNat * 2 ^ (q.toNat + (-r).toNat)) := by rw [e2, ← f2, k1]
    _ = A * d * 2 ^ (0 - (q - r)).toNat * (2 ^ ((-q).toNat + r.toNat) * (2 ^ q.toNat * 2 ^ (-r).toNat)) := by rw [Nat.pow_add, Nat.pow_add]; ac_rfl

theorem own_qmin : FP.Core.b64.qmin = -1074 := by decide
theorem own_one64 : ∃ V : FP.Core.Datum, FP.Core.fits FP.Core.b64 V ∧ V ≠ .nan ∧ FP.Core.zmag FP.Core.b64 V = 2 ^ 1074 ∧ FP.Core.zmag FP.Core.b64 V < FP.Core.b64.tails * 2 ^ (FP.Core.b64.exps - 2) := by
  obtain ⟨c, q, e1, -⟩ := own_val 1 (by decide) (by decide)
  have hf : FP.Core.fits FP.Core.b64 (.fin false c q) := e1 ▸ FP.Core.val64_fits (FP.l2d 1)
  have hw : FP.Core.Whole (1 : Int64).toInt (FP.Core.val64 (FP.l2d 1)) := FP.Core.l2d_int (by decide)
  rw [e1] at hw
  have hz := FP.Core.whole_zval FP.Core.good_b64 hf hw
  refine ⟨.fin false c q, hf, by simp, ?_, FP.Core.zmag_lt_top FP.Core.good_b64 hf⟩
  have h1 : (1 : Int64).toInt = 1 := by decide
  rw [h1, Int.one_mul, own_qmin] at hz
  have h2 : FP.Core.zval FP.Core.b64 (.fin false c q) = ((FP.Core.zmag FP.Core.b64 (.fin false c q) : Nat) : Int) := rfl
  rw [h2] at hz
  exact Int.ofNat.inj hz
/-- a ratio up to one: its double is finite and nearer than a unit in the 52nd place -/
theorem own_near (S W : Nat) (hS : S = 2 ^ 52) (hW : W = 2 ^ 1022) (A B : Nat) (hAB : A ≤ B) (hB : 0 < B) : ∃ z : Nat, FP.Core.zmag FP.Core.b64 (FP.Core.roundRatio FP.Core.b64 false A B 0) = z ∧ (((A * (S * W) : Nat) : Int) - ((z * B : Nat) : Int)).natAbs < B * W := by
  obtain ⟨V, v1, v2, v3, v4⟩ := own_one64
  have hq := own_qmin
  have hU : (2 : Nat) ^ 1074 = S * W := by rw [hS, hW, ← Nat.pow_add]
  have hin : FP.Core.inUnits A 0 FP.Core.b64.qmin = A * (S * W) := by
    unfold FP.Core.inUnits
    rw [hq, show ((0 : Int) - -1074).toNat = 1074 by decide, hU]
  have hle := FP.Core.zmag_roundRatio_le FP.Core.good_b64 (s := false) (A := A) (e := 0) (e0 := FP.Core.b64.qmin) hB v1 v2 (Int.le_refl _) (by rw [hq]; decide) (by
    rw [hin, v3, hU, Int.sub_self, show (0 : Int).toNat = 0 by decide, Nat.pow_zero, Nat.mul_one, Nat.mul_comm A]
    exact Nat.mul_le_mul_left _ hAB)
  rcases FP.Core.roundRatio_cases FP.Core.b64 false A B 0 with ⟨c, q, e⟩ | e
  · refine ⟨_, rfl, ?_⟩
    rw [e]
    have hSp : 0 < S := by rw [hS]; exact Nat.two_pow_pos _
    have hWp : 0 < W := by rw [hW]; exact Nat.two_pow_pos _
    have hm : A * S / B < 2 ^ FP.Core.b64.p := by
      have h53 : (2 : Nat) ^ FP.Core.b64.p = S + S := by rw [hS]; decide
      rw [h53]
      refine (Nat.div_lt_iff_lt_mul hB).mpr ?_
      have : A * S ≤ B * S := Nat.mul_le_mul_right _ hAB
      rw [Nat.add_mul, Nat.mul_comm S B]
      have h2 : 0 < B * S := Nat.mul_pos hB hSp
      omega
    have hd := FP.Core.roundRatio_nearest FP.Core.good_b64 (s := false) (t := false) (A := A) (e := 0) (e0 := FP.Core.b64.qmin) (q' := -52) hB e hm (by rw [hq]; decide) (Int.le_refl _) (by rw [hq]; decide)
    unfold FP.Core.distance at hd
    rw [hin] at hd
    have hm2 : FP.Core.inUnits (A * S / B) (-52) FP.Core.b64.qmin = (A * S / B) * W := by
      unfold FP.Core.inUnits
      rw [hq, show ((-52 : Int) - -1074).toNat = 1022 by decide, hW]
    rw [hm2] at hd
    have hz : FP.Core.zmag FP.Core.b64 (.fin false c q) = FP.Core.inUnits c q FP.Core.b64.qmin := rfl
    rw [hz, Int.natCast_mul (FP.Core.inUnits c q FP.Core.b64.qmin) B]
    refine Nat.lt_of_le_of_lt hd ?_
    have hmod := Nat.mod_lt (A * S) hB
    have hdiv := Nat.div_add_mod (A * S) B
    have key : A * (S * W) = (A * S / B) * W * B + (A * S % B) * W := by
      calc A * (S * W) = (A * S) * W := by ac_rfl
        _ = (B * (A * S / B) + A * S % B) * W := by rw [hdiv]
        _ = (A * S / B) * W * B + (A * S % B) * W := by rw [Nat.add_mul]; ac_rfl
    rw [key, ← Int.natCast_mul, Int.natCast_add, Int.add_comm, Int.add_sub_cancel, Int.natAbs_natCast]
    exact Nat.mul_lt_mul_of_pos_right hmod hWp
  · exfalso
    rw [e] at hle
    have : FP.Core.zmag FP.Core.b64 (.inf false) = FP.Core.b64.tails * 2 ^ (FP.Core.b64.exps - 2) := rfl
    rw [this] at hle
    exact Nat.lt_irrefl _ (Nat.lt_of_le_of_lt hle v4)
theorem own_strict (A B C D S W z1 z2 : Nat) (hB : 0 < B) (hD : 0 < D) (hW : 0 < W) (h1 : (((A * (S * W) : Nat) : Int) - ((z1 * B : Nat) : Int)).natAbs < B * W) (h2 : (((C * (S * W) : Nat) : Int) - ((z2 * D : Nat) : Int)).natAbs < D * W) (hlt : A * D < C * B) (hs : 2 * (B * D) ≤ S) : z1 < z2 := by
  refine Nat.lt_of_not_le fun hle => ?_
  have a1 : z1 * B < A * (S * W) + B * W := by omega
  have a2 : C * (S * W) < z2 * D + D * W := by omega
  have b1 : z1 * B * D < (A * (S * W) + B * W) * D := Nat.mul_lt_mul_of_pos_right a1 hD
  have b2 : C * (S * W) * B < (z2 * D + D * W) * B := Nat.mul_lt_mul_of_pos_right a2 hB
  have b3 : z2 * (B * D) ≤ z1 * (B * D) := Nat.mul_le_mul_right _ hle
  have b4 : (A * D + 1) * (S * W) ≤ C * B * (S * W) := Nat.mul_le_mul_right _ hlt
  have b5 : 2 * (B * D) * W ≤ S * W := Nat.mul_le_mul_right _ hs
  have c1 : z1 * B * D = z1 * (B * D) := by ac_rfl
  have c2 : (A * (S * W) + B * W) * D = A * D * (S * W) + B * D * W := by rw [Nat.add_mul]; congr 1 <;> ac_rfl
  have c3 : C * (S * W) * B = C * B * (S * W) := by ac_rfl
  have c4 : (z2 * D + D * W) * B = z2 * (B * D) + B * D * W := by rw [Nat.add_mul]; congr 1 <;> ac_rfl
  have c5 : (A * D + 1) * (S * W) = A * D * (S * W) + S * W := by rw [Nat.add_mul, Nat.one_mul]
  have c6 : 2 * (B * D) * W = B * D * W + B * D * W := by rw [Nat.mul_assoc, Nat.two_mul]
  rw [c1, c2] at b1
  rw [c3, c4] at b2
  rw [c5] at b4
  rw [c6] at b5
  omega
def own_Ratio (a b : Int64) : Prop := 0 ≤ a.toInt ∧ a.toInt ≤ b.toInt ∧ 0 < b.toInt ∧ b.toInt ≤ 2097152
theorem own_nn {a b : Int64} (h : own_Ratio a b) : FP.Core.val64 (FP.ddiv (FP.l2d a) (FP.l2d b)) ≠ .nan := by
  obtain ⟨h1, h2, h3, h4⟩ := h
  rw [own_quot a b h1 (by omega) h3 (by omega)]
  exact FP.Core.roundRatio_ne_nan _ _ _ _ _
theorem own_dlt {a b c d : Int64} (h : own_Ratio a b) (g : own_Ratio c d) (hlt : a.toInt * d.toInt < c.toInt * b.toInt) : FP.dcmp (FP.ddiv (FP.l2d a) (FP.l2d b)) (FP.ddiv (FP.l2d c) (FP.l2d d)) = some .lt := by
  have n1 := own_nn h
  have n2 := own_nn g
  refine FP.Core.dcmp_lt.mpr ⟨n1, n2, ?_⟩
  obtain ⟨h1, h2, h3, h4⟩ := h
  obtain ⟨g1, g2, g3, g4⟩ := g
  rw [own_quot a b h1 (by omega) h3 (by omega), own_quot c d g1 (by omega) g3 (by omega)]
  unfold FP.Core.zval
  rw [FP.Core.sgn_roundRatio, FP.Core.sgn_roundRatio]
  obtain ⟨S, hS⟩ : ∃ S : Nat, S = 2 ^ 52 := ⟨_, rfl⟩
  obtain ⟨W, hW⟩ : ∃ W : Nat, W = 2 ^ 1022 := ⟨_, rfl⟩
  obtain ⟨z1, e1, q1⟩ := own_near S W hS hW a.toInt.toNat b.toInt.toNat (by omega) (by omega)
  obtain ⟨z2, e2, q2⟩ := own_near S W hS hW c.toInt.toNat d.toInt.toNat (by omega) (by omega)
  rw [e1, e2]
  have := own_strict _ _ _ _ S W z1 z2 (by omega) (by omega) (by rw [hW]; exact Nat.two_pow_pos _) q1 q2 (by
    have k1 := Int.toNat_of_nonneg h1
    have k2 : (b.toInt.toNat : Int) = b.toInt := Int.toNat_of_nonneg (by omega)
    have k3 := Int.toNat_of_nonneg g1
    have k4 : (d.toInt.toNat : Int) = d.toInt := Int.toNat_of_nonneg (by omega)
    have : ((a.toInt.toNat * d.toInt.toNat : Nat) : Int) < ((c.toInt.toNat * b.toInt.toNat : Nat) : Int) := by
      rw [Int.natCast_mul, Int.natCast_mul, k1, k2, k3, k4]; exact hlt
    exact Int.ofNat_lt.mp this) (by
    have k2 : b.toInt.toNat ≤ 2097152 := by omega
    have k4 : d.toInt.toNat ≤ 2097152 := by omega
    have := Nat.mul_le_mul k2 k4
    have k5 : (2 : Nat) ^ 52 = 4503599627370496 := by decide
    rw [hS, k5]
    omega)
  show ((z1 : Nat) : Int) < ((z2 : Nat) : Int)
  omega
theorem own_deq {a b c d : Int64} (h : own_Ratio a b) (g : own_Ratio c d) (he : a.toInt * d.toInt = c.toInt * b.toInt) : FP.dcmp (FP.ddiv (FP.l2d a) (FP.l2d b)) (FP.ddiv (FP.l2d c) (FP.l2d d)) = some .eq := by
  have n1 := own_nn h
  have n2 := own_nn g
  refine FP.Core.dcmp_eq.mpr ⟨n1, n2, ?_⟩
  obtain ⟨h1, h2, h3, h4⟩ := h
  obtain ⟨g1, g2, g3, g4⟩ := g
  rw [own_quot a b h1 (by omega) h3 (by omega), own_quot c d g1 (by omega) g3 (by omega)]
  congr 1
  refine FP.Core.roundRatio_congr (by omega) (by omega) ?_
  have k1 := Int.toNat_of_nonneg h1
  have k2 : (b.toInt.toNat : Int) = b.toInt := Int.toNat_of_nonneg (by omega)
  have k3 := Int.toNat_of_nonneg g1
  have k4 : (d.toInt.toNat : Int) = d.toInt := Int.toNat_of_nonneg (by omega)
  have : a.toInt.toNat * d.toInt.toNat = c.toInt.toNat * b.toInt.toNat := by
    apply Int.ofNat.inj
    show ((a.toInt.toNat * d.toInt.toNat : Nat) : Int) = ((c.toInt.toNat * b.toInt.toNat : Nat) : Int)
    rw [Int.natCast_mul, Int.natCast_mul, k1, k2, k3, k4]; exact he
  rw [this]

def own_minL (x y : Int64) : Int64 := if y < x then y else x
def own_f1 (c f e : Int64) : UInt64 := if c = (0 : Int64) then (0 : UInt64) else FP.ddiv (FP.l2d ((2 : Int64) * c)) (FP.l2d (e + f))
theorem own_no {x : UInt64} (h : FP.Core.val64 x ≠ .nan) : Jvm.Free.Fl.NoNaN64 x := Jvm.Free.Fl.noNaN64_no.mpr (decide_eq_false h)
theorem own_dm {c : Int64} (h : ¬ c = (0 : Int64)) (h0 : 0 ≤ c.toInt) (h1 : c.toInt ≤ 1048576) : FP.dmul (4611686018427387904 : UInt64) (FP.l2d c) = FP.l2d ((2 : Int64) * c) := by
  have k : (4611686018427387904 : UInt64) = FP.l2d 2 := by decide +kernel
  have k2 : (2 : Int64).toInt = 2 := by decide
  rw [k]
  exact dmul_w (by unfold B53; omega) (by unfold B53; omega) (by decide) h (by rw [k2]; omega) (by rw [k2]; omega)
theorem own_dz {s : Int64} (h2 : 0 < s.toInt) (h3 : s.toInt ≤ 9007199254740992) : FP.ddiv (FP.l2d 0) (FP.l2d s) = 0 := by
  obtain ⟨c, q, e1, e2⟩ := own_val 0 (by decide) (by decide)
  obtain ⟨d, r, f1, f2⟩ := own_val s (by omega) h3
  have hB : 0 < s.toInt.toNat := by omega
  have hc : c = 0 := by
    have p := Nat.two_pow_pos q.toNat
    have z : (0 : Int64).toInt.toNat = 0 := by decide
    rw [z, Nat.zero_mul] at e2
    rcases Nat.mul_eq_zero.mp e2 with g | g
    · exact g
    · omega
  have hd : 0 < d := by
    rcases Nat.eq_zero_or_pos d with z | z
    · subst z
      rw [Nat.zero_mul] at f2
      have := Nat.mul_pos hB (Nat.two_pow_pos (-r).toNat)
      omega
    · exact z
  subst hc
  show UInt64.ofNat (FP.Core.encode FP.Core.b64 (FP.Core.quotient FP.Core.b64 (FP.Core.val64 (FP.l2d 0)) (FP.Core.val64 (FP.l2d s)))) = 0
  rw [e1, f1]
  show UInt64.ofNat (FP.Core.encode FP.Core.b64 (if d = 0 then _ else FP.Core.roundRatio FP.Core.b64 (false != false) 0 d (q - r))) = 0
  rw [if_neg (by omega)]
  show UInt64.ofNat (FP.Core.encode FP.Core.b64 (FP.Core.Datum.fin false 0 FP.Core.b64.qmin)) = 0
  decide
theorem own_f1e {c f e : Int64} (h2 : 0 < (e + f).toInt) (h3 : (e + f).toInt ≤ 9007199254740992) : own_f1 c f e = FP.ddiv (FP.l2d ((2 : Int64) * c)) (FP.l2d (e + f)) := by
  unfold own_f1
  split
  · rename_i h; subst h
    exact (own_dz h2 h3).symm
  · rfl
theorem own_m20 (x : Int64) : 0 ≤ (x &&& (1048575 : Int64)).toInt ∧ (x &&& (1048575 : Int64)).toInt < 1048576 := by
  have := c_maskL x (1048575 : Int64) 20 (by decide) (by decide); omega
theorem own_m21 (x : Int64) : 1 ≤ ((x &&& (2097151 : Int64)) + (1 : Int64)).toInt ∧ ((x &&& (2097151 : Int64)) + (1 : Int64)).toInt ≤ 2097152 := by
  have h := c_maskL x (2097151 : Int64) 21 (by decide) (by decide)
  have k1 : (1 : Int64).toInt = 1 := by decide
  have e := own_ladd (x := x &&& (2097151 : Int64)) rfl k1 (by omega) (by omega)
  omega
theorem own_minR {f e : Int64} : (own_minL f e).toInt ≤ f.toInt ∧ (own_minL f e).toInt ≤ e.toInt ∧ (own_minL f e = f ∨ own_minL f e = e) := by
  unfold own_minL
  split
  · rename_i h; rw [Int64.lt_iff_toInt_lt] at h; exact ⟨by omega, by omega, Or.inr rfl⟩
  · rename_i h; rw [Int64.lt_iff_toInt_lt] at h; exact ⟨by omega, by omega, Or.inl rfl⟩
theorem own_remR (x m : Int64) (h0 : 0 ≤ m.toInt) (h1 : m.toInt < 9000000000000) : ¬ (m + (1 : Int64)) = 0 ∧ 0 ≤ ((x &&& (9223372036854775807 : Int64)) - ((x &&& (9223372036854775807 : Int64)) / (m + (1 : Int64))) * (m + (1 : Int64))).toInt ∧ ((x &&& (9223372036854775807 : Int64)) - ((x &&& (9223372036854775807 : Int64)) / (m + (1 : Int64))) * (m + (1 : Int64))).toInt ≤ m.toInt := by
  have k1 : (1 : Int64).toInt = 1 := by decide
  have k0 : (0 : Int64).toInt = 0 := by decide
  have e := own_ladd (x := m) rfl k1 (by omega) (by omega)
  have hx := c_maskL x (9223372036854775807 : Int64) 63 (by decide) (by decide)
  have r := (c_lrem (x &&& (9223372036854775807 : Int64)) (m + 1) (m.toInt + 1) e).1 (by omega)
  refine ⟨fun q => by rw [q, k0] at e; omega, ?_⟩
  rw [r]
  have a1 := Int.emod_nonneg (x &&& (9223372036854775807 : Int64)).toInt (by omega : m.toInt + 1 ≠ 0)
  have a2 := Int.emod_lt_of_pos (x &&& (9223372036854775807 : Int64)).toInt (by omega : 0 < m.toInt + 1)
  omega
theorem own_d1_0 : decode jdk_29_method_70_code 0 = .ok (.lload_n 0, 1) := by decide +kernel
theorem own_d1_1 : decode jdk_29_method_70_code 1 = .ok (.lload_n 2, 1) := by decide +kernel
theorem own_d1_2 : decode jdk_29_method_70_code 2 = .ok (.lcmp, 1) := by decide +kernel
theorem own_d1_3 : decode jdk_29_method_70_code 3 = .ok (.ifCond .gt 7, 3) := by decide +kernel
theorem own_d1_6 : decode jdk_29_method_70_code 6 = .ok (.lload_n 0, 1) := by decide +kernel
theorem own_d1_7 : decode jdk_29_method_70_code 7 = .ok (.goto 4, 3) := by decide +kernel
theorem own_d1_10 : decode jdk_29_method_70_code 10 = .ok (.lload_n 2, 1) := by decide +kernel
theorem own_d1_11 : decode jdk_29_method_70_code 11 = .ok (.lreturn, 1) := by decide +kernel
def own_Q1 (Z : State) (x1 : Int64) (x2 : Int64) (h0 : Heap) (n0 : Nat) (v : Option Value) (h : Heap) (L : List Loc) : Prop := v = some (.long (own_minL x1 x2)) ∧ Fr n0 L ∧ h = h0
theorem own_ef1 (m : MethodId) (x1 : Int64) (x2 : Int64) : entryFrame m #[(.long x1), (.long x2)] 4 = mkF m 0 #[.val (.long x1), .second, .val (.long x2), .second] [] := by first | (simp [entryFrame, mkF, argsToLocals, Value.category]; done) | rfl
set_option maxRecDepth 65536 in
set_option maxHeartbeats 40000000 in
theorem own_rm1 (l : Launch) (Z : State) (a0 : Array Value) (hw : ∀ d ∈ tables_1, d.before a0 Z = true) (ws : List Jvm.Cond) (x1 : Int64) (x2 : Int64) (h0 : Heap) (n0 : Nat) (Z0 : n0 ≤ h0.size)  :
    MetFree l (⟨"java/lang/Math", "min", "(JJ)J"⟩ : MethodName) (head1 (Jvm.Cond.code (⟨"java/lang/Math", "min", "(JJ)J"⟩ : MethodName) jdk_29_method_70_code 4 (some .long) :: ws) ({ frames := 0, cells := 0, slots := 0, locals := 0 } : Room)) (fun a U => a = #[(.long x1), (.long x2)] ∧ Z.Warmed39 U.vm ∧ U.heap = h0) (fun _ _ _ _ _ => True) (fun _ U o U' => ∃ v L, o = .returned v ∧ own_Q1 Z x1 x2 h0 n0 v U'.heap L ∧ FrameEnd U o U' L ({ frames := 0, cells := 0, slots := 0, locals := 0 } : Room).cells ({ frames := 0, cells := 0, slots := 0, locals := 0 } : Room).slots) := by
  refine MetFree.of_bodySF (Jvm.Free.JP.mathPlain rfl (by decide +kernel)) hisR ?_
  intro p e s m args below meth c s₁ Bd hml0 hP hK
  obtain ⟨rfl, hZ, hh⟩ := hP
  have hx := Bd.exec
  have hby := Bd.bytes
  have hml : c.maxLocals = 4 := hml0
  have hown : s.vm.findClass "java/lang/Math" = some m.cls := findClass_of_methodNamed Bd.named
  have hnm := (name_of_methodNamed Bd.named Bd.method).1
  have X0 : Stand p l e ({ frames := 0, cells := 0, slots := 0, locals := 0 } : Room) s m #[(.long x1), (.long x2)] below meth c s₁ [] 0 0 := Stand.of_body Bd
  have e0 : s₁.heap = h0 := by rw [← hh, Bd.state]; rfl
  have N0 := Fr.nil n0
  have pre0 : ∀ t, Steps p.tables e below (s₁.setTop (mkF m 0 #[.val (.long x1), .second, .val (.long x2), .second] [])) t → Steps p.tables e below (s₁.setTop (entryFrame m #[(.long x1), (.long x2)] 4)) t := fun t k => castTop (own_ef1 m x1 x2) k
  have pre1 : ∀ t, Steps p.tables e below (s₁.setTop (mkF m 3 #[.val (.long x1), .second, .val (.long x2), .second] [(.int (lcmpW x1 x2))])) t → Steps p.tables e below (s₁.setTop (entryFrame m #[(.long x1), (.long x2)] 4)) t := by
    intro t k
    refine pre0 _ ?_
    show Steps p.tables e below (s₁.setTop (mkF m 0 #[.val (.long x1), .second, .val (.long x2), .second] [])) _
    refine XS.lloadN X0.here hx rfl (hb hby own_d1_0) rfl ?_
    show Steps p.tables e below (s₁.setTop (mkF m 1 #[.val (.long x1), .second, .val (.long x2), .second] [(.long x1)])) _
    refine XS.lloadN X0.here hx rfl (hb hby own_d1_1) rfl ?_
    show Steps p.tables e below (s₁.setTop (mkF m 2 #[.val (.long x1), .second, .val (.long x2), .second] [(.long x2), (.long x1)])) _
    refine XS.lcmp X0.here hx rfl (hb hby own_d1_2) rfl ?_
    exact k
  by_cases hc3 : x2 < x1
  · obtain ⟨fs, hr, hrun, hended, hW, hsame⟩ := X0.leave (v := some (.long x2)) (fun h => by rw [Bd.returns] at h; cases h)
    have ev2 : (own_minL x1 x2) = x2 := by
      simp [own_minL, hc3]
    refine ⟨_, _, pre1 _ ?_, hrun, hended, _, _, rfl, ?_, ⟨_, rfl⟩, hW, hsame.mono (by decide) (by decide)⟩
    · show Steps p.tables e below (s₁.setTop (mkF m 3 #[.val (.long x1), .second, .val (.long x2), .second] [(.int (lcmpW x1 x2))])) _
      refine XS.ifYes X0.here hx rfl (pc0 := 3) (pc' := 10) rfl (hb hby own_d1_3) rfl ((if0 _ _).trans (tlt ((lw_gt x1 x2).mpr hc3)).2.2.1) (by decide) (by decide) ?_
      show Steps p.tables e below (s₁.setTop (mkF m 10 #[.val (.long x1), .second, .val (.long x2), .second] [])) _
      refine XS.lloadN X0.here hx rfl (hb hby own_d1_10) rfl ?_
      show Steps p.tables e below (s₁.setTop (mkF m 11 #[.val (.long x1), .second, .val (.long x2), .second] [(.long x2)])) _
      exact retJ X0 hx Bd.returns (hb hby own_d1_11) hr
    · show own_Q1 Z x1 x2 h0 n0 _ s₁.heap _
      rw [e0]
      exact ⟨(by rw [ev2]), N0, rfl⟩
  · obtain ⟨fs, hr, hrun, hended, hW, hsame⟩ := X0.leave (v := some (.long x1)) (fun h => by rw [Bd.returns] at h; cases h)
    have ev3 : (own_minL x1 x2) = x1 := by
      simp [own_minL, hc3]
    refine ⟨_, _, pre1 _ ?_, hrun, hended, _, _, rfl, ?_, ⟨_, rfl⟩, hW, hsame.mono (by decide) (by decide)⟩
    · show Steps p.tables e below (s₁.setTop (mkF m 3 #[.val (.long x1), .second, .val (.long x2), .second] [(.int (lcmpW x1 x2))])) _
      refine XS.ifNo X0.here hx rfl (hb hby own_d1_3) rfl ((if0 _ _).trans (flt (fun z => hc3 ((lw_gt x1 x2).mp z))).2.2.1) ?_
      show Steps p.tables e below (s₁.setTop (mkF m 6 #[.val (.long x1), .second, .val (.long x2), .second] [])) _
      refine XS.lloadN X0.here hx rfl (hb hby own_d1_6) rfl ?_
      show Steps p.tables e below (s₁.setTop (mkF m 7 #[.val (.long x1), .second, .val (.long x2), .second] [(.long x1)])) _
      refine XS.goto X0.here hx rfl (pc0 := 7) (pc' := 11) rfl (hb hby own_d1_7) (by decide) (by decide) ?_
      show Steps p.tables e below (s₁.setTop (mkF m 11 #[.val (.long x1), .second, .val (.long x2), .second] [(.long x1)])) _
      exact retJ X0 hx Bd.returns (hb hby own_d1_11) hr
    · show own_Q1 Z x1 x2 h0 n0 _ s₁.heap _
      rw [e0]
      exact ⟨(by rw [ev3]), N0, rfl⟩
theorem own_pn0 : plainName "com/example/zhengzi/zhengzi/PrecisionRecall" = true := by first | (simp [plainName, overriddenIn]; done) | decide +kernel
theorem own_d2_0 : decode prog_44_method_4_code 0 = .ok (.lload_n 0, 1) := by decide +kernel
theorem own_d2_1 : decode prog_44_method_4_code 1 = .ok (.lconst 0, 1) := by decide +kernel
theorem own_d2_2 : decode prog_44_method_4_code 2 = .ok (.lcmp, 1) := by decide +kernel
theorem own_d2_3 : decode prog_44_method_4_code 3 = .ok (.ifCond .ne 7, 3) := by decide +kernel
theorem own_d2_6 : decode prog_44_method_4_code 6 = .ok (.dconst 0, 1) := by decide +kernel
theorem own_d2_7 : decode prog_44_method_4_code 7 = .ok (.goto 15, 3) := by decide +kernel
theorem own_d2_10 : decode prog_44_method_4_code 10 = .ok (.ldc2_w 7, 3) := by decide +kernel
theorem own_d2_13 : decode prog_44_method_4_code 13 = .ok (.lload_n 0, 1) := by decide +kernel
theorem own_d2_14 : decode prog_44_method_4_code 14 = .ok (.l2d, 1) := by decide +kernel
theorem own_d2_15 : decode prog_44_method_4_code 15 = .ok (.dmul, 1) := by decide +kernel
theorem own_d2_16 : decode prog_44_method_4_code 16 = .ok (.lload 4, 2) := by decide +kernel
theorem own_d2_18 : decode prog_44_method_4_code 18 = .ok (.lload_n 2, 1) := by decide +kernel
theorem own_d2_19 : decode prog_44_method_4_code 19 = .ok (.ladd, 1) := by decide +kernel
theorem own_d2_20 : decode prog_44_method_4_code 20 = .ok (.l2d, 1) := by decide +kernel
theorem own_d2_21 : decode prog_44_method_4_code 21 = .ok (.ddiv, 1) := by decide +kernel
theorem own_d2_22 : decode prog_44_method_4_code 22 = .ok (.dreturn, 1) := by decide +kernel
def own_Q2 (Z : State) (xc : Int64) (xf : Int64) (xe : Int64) (h0 : Heap) (n0 : Nat) (v : Option Value) (h : Heap) (L : List Loc) : Prop := v = some (.double (own_f1 xc xf xe)) ∧ Fr n0 L ∧ h = h0
theorem own_ef2 (m : MethodId) (xc : Int64) (xf : Int64) (xe : Int64) : entryFrame m #[(.long xc), (.long xf), (.long xe)] 6 = mkF m 0 #[.val (.long xc), .second, .val (.long xf), .second, .val (.long xe), .second] [] := by first | (simp [entryFrame, mkF, argsToLocals, Value.category]; done) | rfl
set_option maxRecDepth 65536 in
set_option maxHeartbeats 40000000 in
theorem own_rm2 (l : Launch) (Z : State) (a0 : Array Value) (hw : ∀ d ∈ tables_1, d.before a0 Z = true) (ws : List Jvm.Cond) (xc : Int64) (xf : Int64) (xe : Int64) (h0 : Heap) (n0 : Nat) (Z0 : n0 ≤ h0.size) (hc0 : 0 ≤ xc.toInt) (hc1 : xc.toInt ≤ 1048576) (hs0 : ¬ (xc = (0 : Int64)) → own_Ratio ((2 : Int64) * xc) (xe + xf)) :
    MetFree l (⟨"com/example/zhengzi/zhengzi/PrecisionRecall", "f1", "(JJJ)D"⟩ : MethodName) (head1 (Jvm.Cond.code (⟨"com/example/zhengzi/zhengzi/PrecisionRecall", "f1", "(JJJ)D"⟩ : MethodName) prog_44_method_4_code 6 (some .double) :: ws) ({ frames := 0, cells := 0, slots := 0, locals := 0 } : Room)) (fun a U => a = #[(.long xc), (.long xf), (.long xe)] ∧ Z.Warmed39 U.vm ∧ U.heap = h0) (fun _ _ _ _ _ => True) (fun _ U o U' => ∃ v L, o = .returned v ∧ own_Q2 Z xc xf xe h0 n0 v U'.heap L ∧ FrameEnd U o U' L ({ frames := 0, cells := 0, slots := 0, locals := 0 } : Room).cells ({ frames := 0, cells := 0, slots := 0, locals := 0 } : Room).slots) := by
  refine MetFree.of_bodySF (plainFor_of_name own_pn0) hisR ?_
  intro p e s m args below meth c s₁ Bd hml0 hP hK
  obtain ⟨rfl, hZ, hh⟩ := hP
  have hx := Bd.exec
  have hby := Bd.bytes
  have hml : c.maxLocals = 6 := hml0
  have hown : s.vm.findClass "com/example/zhengzi/zhengzi/PrecisionRecall" = some m.cls := findClass_of_methodNamed Bd.named
  have hnm := (name_of_methodNamed Bd.named Bd.method).1
  have X0 : Stand p l e ({ frames := 0, cells := 0, slots := 0, locals := 0 } : Room) s m #[(.long xc), (.long xf), (.long xe)] below meth c s₁ [] 0 0 := Stand.of_body Bd
  have e0 : s₁.heap = h0 := by rw [← hh, Bd.state]; rfl
  have N0 := Fr.nil n0
  have pre0 : ∀ t, Steps p.tables e below (s₁.setTop (mkF m 0 #[.val (.long xc), .second, .val (.long xf), .second, .val (.long xe), .second] [])) t → Steps p.tables e below (s₁.setTop (entryFrame m #[(.long xc), (.long xf), (.long xe)] 6)) t := fun t k => castTop (own_ef2 m xc xf xe) k
  have pre1 : ∀ t, Steps p.tables e below (s₁.setTop (mkF m 3 #[.val (.long xc), .second, .val (.long xf), .second, .val (.long xe), .second] [(.int (lcmpW xc (0 : Int64)))])) t → Steps p.tables e below (s₁.setTop (entryFrame m #[(.long xc), (.long xf), (.long xe)] 6)) t := by
    intro t k
    refine pre0 _ ?_
    show Steps p.tables e below (s₁.setTop (mkF m 0 #[.val (.long xc), .second, .val (.long xf), .second, .val (.long xe), .second] [])) _
    refine XS.lloadN X0.here hx rfl (hb hby own_d2_0) rfl ?_
    show Steps p.tables e below (s₁.setTop (mkF m 1 #[.val (.long xc), .second, .val (.long xf), .second, .val (.long xe), .second] [(.long xc)])) _
    refine XS.lconst X0.here hx rfl (hb hby own_d2_1) ?_
    show Steps p.tables e below (s₁.setTop (mkF m 2 #[.val (.long xc), .second, .val (.long xf), .second, .val (.long xe), .second] [(.long (0 : Int64)), (.long xc)])) _
    refine XS.lcmp X0.here hx rfl (hb hby own_d2_2) rfl ?_
    exact k
  by_cases hc3 : xc = (0 : Int64)
  · obtain ⟨fs, hr, hrun, hended, hW, hsame⟩ := X0.leave (v := some (.double (0 : UInt64))) (fun h => by rw [Bd.returns] at h; cases h)
    have ev2 : (own_f1 xc xf xe) = (0 : UInt64) := by
      simp [own_f1, hc3]
    refine ⟨_, _, pre1 _ ?_, hrun, hended, _, _, rfl, ?_, ⟨_, rfl⟩, hW, hsame.mono (by decide) (by decide)⟩
    · show Steps p.tables e below (s₁.setTop (mkF m 3 #[.val (.long xc), .second, .val (.long xf), .second, .val (.long xe), .second] [(.int (lcmpW xc (0 : Int64)))])) _
      refine XS.ifNo X0.here hx rfl (hb hby own_d2_3) rfl ((if0 _ _).trans (teq ((lw_eq xc (0 : Int64)).mpr hc3)).2) ?_
      show Steps p.tables e below (s₁.setTop (mkF m 6 #[.val (.long xc), .second, .val (.long xf), .second, .val (.long xe), .second] [])) _
      refine XS.dconst0 X0.here hx rfl (hb hby own_d2_6) (v := (0 : UInt64)) rfl ?_
      show Steps p.tables e below (s₁.setTop (mkF m 7 #[.val (.long xc), .second, .val (.long xf), .second, .val (.long xe), .second] [(.double (0 : UInt64))])) _
      refine XS.goto X0.here hx rfl (pc0 := 7) (pc' := 22) rfl (hb hby own_d2_7) (by decide) (by decide) ?_
      show Steps p.tables e below (s₁.setTop (mkF m 22 #[.val (.long xc), .second, .val (.long xf), .second, .val (.long xe), .second] [(.double (0 : UInt64))])) _
      exact retOut X0 hx Bd.returns rfl (Or.inr (Or.inr (Or.inl ⟨rfl, rfl, _, rfl⟩))) (hb hby own_d2_22) hr
    · show own_Q2 Z xc xf xe h0 n0 _ s₁.heap _
      rw [e0]
      exact ⟨(by rw [ev2]), N0, rfl⟩
  · obtain ⟨fs, hr, hrun, hended, hW, hsame⟩ := X0.leave (v := some (.double (FP.ddiv (FP.l2d ((2 : Int64) * xc)) (FP.l2d (xe + xf))))) (fun h => by rw [Bd.returns] at h; cases h)
    have ev3 : (own_f1 xc xf xe) = (FP.ddiv (FP.l2d ((2 : Int64) * xc)) (FP.l2d (xe + xf))) := by
      simp [own_f1, hc3]
    refine ⟨_, _, pre1 _ ?_, hrun, hended, _, _, rfl, ?_, ⟨_, rfl⟩, hW, hsame.mono (by decide) (by decide)⟩
    · show Steps p.tables e below (s₁.setTop (mkF m 3 #[.val (.long xc), .second, .val (.long xf), .second, .val (.long xe), .second] [(.int (lcmpW xc (0 : Int64)))])) _
      refine XS.ifYes X0.here hx rfl (pc0 := 3) (pc' := 10) rfl (hb hby own_d2_3) rfl ((if0 _ _).trans (feq (fun z => hc3 ((lw_eq xc (0 : Int64)).mp z))).2) (by decide) (by decide) ?_
      show Steps p.tables e below (s₁.setTop (mkF m 10 #[.val (.long xc), .second, .val (.long xf), .second, .val (.long xe), .second] [])) _
      refine X0.ldc2DoubleC hx hown (mvT hZ (hw _ (List.mem_of_getElem? (i := 11) rfl))) (g := (mkF m 10 #[.val (.long xc), .second, .val (.long xf), .second, .val (.long xe), .second] [])) rfl (hb hby own_d2_10) _ ?_
      show Steps p.tables e below (s₁.setTop (mkF m 13 #[.val (.long xc), .second, .val (.long xf), .second, .val (.long xe), .second] [(.double (4611686018427387904 : UInt64))])) _
      refine XS.lloadN X0.here hx rfl (hb hby own_d2_13) rfl ?_
      show Steps p.tables e below (s₁.setTop (mkF m 14 #[.val (.long xc), .second, .val (.long xf), .second, .val (.long xe), .second] [(.long xc), (.double (4611686018427387904 : UInt64))])) _
      refine XS.l2dS X0.here hx rfl (hb hby own_d2_14) rfl rfl ?_
      show Steps p.tables e below (s₁.setTop (mkF m 15 #[.val (.long xc), .second, .val (.long xf), .second, .val (.long xe), .second] [(.double (FP.l2d xc)), (.double (4611686018427387904 : UInt64))])) _
      refine XS.dmulS X0.here hx rfl (hb hby own_d2_15) rfl (nn_w (own_dm hc3 hc0 hc1)) (own_dm hc3 hc0 hc1) ?_
      show Steps p.tables e below (s₁.setTop (mkF m 16 #[.val (.long xc), .second, .val (.long xf), .second, .val (.long xe), .second] [(.double (FP.l2d ((2 : Int64) * xc)))])) _
      refine XS.lload X0.here hx rfl (hb hby own_d2_16) rfl ?_
      show Steps p.tables e below (s₁.setTop (mkF m 18 #[.val (.long xc), .second, .val (.long xf), .second, .val (.long xe), .second] [(.long xe), (.double (FP.l2d ((2 : Int64) * xc)))])) _
      refine XS.lloadN X0.here hx rfl (hb hby own_d2_18) rfl ?_
      show Steps p.tables e below (s₁.setTop (mkF m 19 #[.val (.long xc), .second, .val (.long xf), .second, .val (.long xe), .second] [(.long xf), (.long xe), (.double (FP.l2d ((2 : Int64) * xc)))])) _
      refine XS.ladd X0.here hx rfl (hb hby own_d2_19) rfl ?_
      show Steps p.tables e below (s₁.setTop (mkF m 20 #[.val (.long xc), .second, .val (.long xf), .second, .val (.long xe), .second] [(.long (xe + xf)), (.double (FP.l2d ((2 : Int64) * xc)))])) _
      refine XS.l2dS X0.here hx rfl (hb hby own_d2_20) rfl rfl ?_
      show Steps p.tables e below (s₁.setTop (mkF m 21 #[.val (.long xc), .second, .val (.long xf), .second, .val (.long xe), .second] [(.double (FP.l2d (xe + xf))), (.double (FP.l2d ((2 : Int64) * xc)))])) _
      refine XS.ddivS X0.here hx rfl (hb hby own_d2_21) rfl (own_no (own_nn (hs0 hc3))) rfl ?_
      show Steps p.tables e below (s₁.setTop (mkF m 22 #[.val (.long xc), .second, .val (.long xf), .second, .val (.long xe), .second] [(.double (FP.ddiv (FP.l2d ((2 : Int64) * xc)) (FP.l2d (xe + xf))))])) _
      exact retOut X0 hx Bd.returns rfl (Or.inr (Or.inr (Or.inl ⟨rfl, rfl, _, rfl⟩))) (hb hby own_d2_22) hr
    · show own_Q2 Z xc xf xe h0 n0 _ s₁.heap _
      rw [e0]
      exact ⟨(by rw [ev3]), N0, rfl⟩
theorem own_pn1 : plainName "com/example/zhengzi/zhengzi/PrecisionRecallF1PinLaw" = true := by first | (simp [plainName, overriddenIn]; done) | decide +kernel
theorem own_pd0 : parseMethodDescriptor "(JJ)J" = some ⟨[.long, .long], some .long⟩ := by decide +kernel
theorem own_pd1 : parseMethodDescriptor "(JJJ)D" = some ⟨[.long, .long, .long], some .double⟩ := by decide +kernel
def own_Q0 (Z : State) (y1 : Int64) (y2 : Int64) (y3 : Int64) (y4 : Int64) (y5 : Int64) (h0 : Heap) (n0 : Nat) (v : Option Value) (h : Heap) (L : List Loc) : Prop := v = some (.int (1 : Int32)) ∧ Fr n0 L
theorem own_ef0 (m : MethodId) (y1 : Int64) (y2 : Int64) (y3 : Int64) (y4 : Int64) (y5 : Int64) : entryFrame m #[(.long y1), (.long y2), (.long y3), (.long y4), (.long y5)] maxLocals = mkF m 0 #[.val (.long y1), .second, .val (.long y2), .second, .val (.long y3), .second, .val (.long y4), .second, .val (.long y5), .second, .unset, .unset, .unset, .unset, .unset, .unset, .unset, .unset, .unset, .unset, .unset, .unset, .unset, .unset, .unset, .unset, .unset, .unset, .unset, .unset, .unset, .unset] [] := by first | (simp [entryFrame, mkF, argsToLocals, Value.category, maxLocals]; done) | rfl
set_option maxRecDepth 65536 in
set_option maxHeartbeats 40000000 in
theorem own_rm0 (l : Launch) (Z : State) (a0 : Array Value) (hw : ∀ d ∈ tables_1, d.before a0 Z = true) (ws : List Jvm.Cond) (y1 : Int64) (y2 : Int64) (y3 : Int64) (y4 : Int64) (y5 : Int64) (h0 : Heap) (n0 : Nat) (Z0 : n0 ≤ h0.size)  :
    MetFree l x (head1 (Jvm.Cond.code x code maxLocals ret :: ws) room_1) (fun a U => a = #[(.long y1), (.long y2), (.long y3), (.long y4), (.long y5)] ∧ Z.Warmed39 U.vm ∧ U.heap = h0) (fun _ _ _ _ _ => True) (fun _ U o U' => ∃ v L, o = .returned v ∧ own_Q0 Z y1 y2 y3 y4 y5 h0 n0 v U'.heap L ∧ FrameEnd U o U' L room_1.cells room_1.slots) := by
  refine MetFree.of_bodySF (plainFor_of_name own_pn1) hisR ?_
  intro p e s m args below meth c s₁ Bd hml0 hP hK
  obtain ⟨rfl, hZ, hh⟩ := hP
  have hx := Bd.exec
  have hby := Bd.bytes
  have hml : c.maxLocals = 32 := hml0
  have hown : s.vm.findClass "com/example/zhengzi/zhengzi/PrecisionRecallF1PinLaw" = some m.cls := findClass_of_methodNamed Bd.named
  have hnm := (name_of_methodNamed Bd.named Bd.method).1
  have X0 : Stand p l e room_1 s m #[(.long y1), (.long y2), (.long y3), (.long y4), (.long y5)] below meth c s₁ [] 0 0 := Stand.of_body Bd
  have e0 : s₁.heap = h0 := by rw [← hh, Bd.state]; rfl
  have N0 := Fr.nil n0
  have pre0 : ∀ t, Steps p.tables e below (s₁.setTop (mkF m 0 #[.val (.long y1), .second, .val (.long y2), .second, .val (.long y3), .second, .val (.long y4), .second, .val (.long y5), .second, .unset, .unset, .unset, .unset, .unset, .unset, .unset, .unset, .unset, .unset, .unset, .unset, .unset, .unset, .unset, .unset, .unset, .unset, .unset, .unset, .unset, .unset] [])) t → Steps p.tables e below (s₁.setTop (entryFrame m #[(.long y1), (.long y2), (.long y3), (.long y4), (.long y5)] maxLocals)) t := fun t k => castTop (own_ef0 m y1 y2 y3 y4 y5) k
  have K0 : Keep h0 h0 [] := Keep.refl _ _
  obtain ⟨v5, hv5⟩ : ∃ w : Int64, w = (y2 &&& (1048575 : Int64)) := ⟨_, rfl⟩
  have pre1 : ∀ t, Steps p.tables e below (s₁.setTop (mkF m 7 #[.val (.long y1), .second, .val (.long y2), .second, .val (.long y3), .second, .val (.long y4), .second, .val (.long y5), .second, .val (.long v5), .second, .unset, .unset, .unset, .unset, .unset, .unset, .unset, .unset, .unset, .unset, .unset, .unset, .unset, .unset, .unset, .unset, .unset, .unset, .unset, .unset] [])) t → Steps p.tables e below (s₁.setTop (entryFrame m #[(.long y1), (.long y2), (.long y3), (.long y4), (.long y5)] maxLocals)) t := by
    intro t k
    rw [hv5] at k
    refine pre0 _ ?_
    show Steps p.tables e below (s₁.setTop (mkF m 0 #[.val (.long y1), .second, .val (.long y2), .second, .val (.long y3), .second, .val (.long y4), .second, .val (.long y5), .second, .unset, .unset, .unset, .unset, .unset, .unset, .unset, .unset, .unset, .unset, .unset, .unset, .unset, .unset, .unset, .unset, .unset, .unset, .unset, .unset, .unset, .unset] [])) _
    refine XS.lloadN X0.here hx rfl (hb hby at_0) rfl ?_
    show Steps p.tables e below (s₁.setTop (mkF m 1 #[.val (.long y1), .second, .val (.long y2), .second, .val (.long y3), .second, .val (.long y4), .second, .val (.long y5), .second, .unset, .unset, .unset, .unset, .unset, .unset, .unset, .unset, .unset, .unset, .unset, .unset, .unset, .unset, .unset, .unset, .unset, .unset, .unset, .unset, .unset, .unset] [(.long y2)])) _
    refine X0.ldc2Long hx hown (mvT hZ (hw _ (List.mem_of_getElem? (i := 0) rfl))) (g := (mkF m 1 #[.val (.long y1), .second, .val (.long y2), .second, .val (.long y3), .second, .val (.long y4), .second, .val (.long y5), .second, .unset, .unset, .unset, .unset, .unset, .unset, .unset, .unset, .unset, .unset, .unset, .unset, .unset, .unset, .unset, .unset, .unset, .unset, .unset, .unset, .unset, .unset] [(.long y2)])) rfl (hb hby at_1) _ ?_
    show Steps p.tables e below (s₁.setTop (mkF m 4 #[.val (.long y1), .second, .val (.long y2), .second, .val (.long y3), .second, .val (.long y4), .second, .val (.long y5), .second, .unset, .unset, .unset, .unset, .unset, .unset, .unset, .unset, .unset, .unset, .unset, .unset, .unset, .unset, .unset, .unset, .unset, .unset, .unset, .unset, .unset, .unset] [(.long (1048575 : Int64)), (.long y2)])) _
    refine XS.land X0.here hx rfl (hb hby at_4) rfl ?_
    show Steps p.tables e below (s₁.setTop (mkF m 5 #[.val (.long y1), .second, .val (.long y2), .second, .val (.long y3), .second, .val (.long y4), .second, .val (.long y5), .second, .unset, .unset, .unset, .unset, .unset, .unset, .unset, .unset, .unset, .unset, .unset, .unset, .unset, .unset, .unset, .unset, .unset, .unset, .unset, .unset, .unset, .unset] [(.long (y2 &&& (1048575 : Int64)))])) _
    refine XS.lstore X0.here hx rfl (hb hby at_5) rfl (l' := #[.val (.long y1), .second, .val (.long y2), .second, .val (.long y3), .second, .val (.long y4), .second, .val (.long y5), .second, .val (.long (y2 &&& (1048575 : Int64))), .second, .unset, .unset, .unset, .unset, .unset, .unset, .unset, .unset, .unset, .unset, .unset, .unset, .unset, .unset, .unset, .unset, .unset, .unset, .unset, .unset]) rfl ?_
    exact k
  obtain ⟨v13, hv13⟩ : ∃ w : Int64, w = (y3 &&& (1048575 : Int64)) := ⟨_, rfl⟩
  have pre2 : ∀ t, Steps p.tables e below (s₁.setTop (mkF m 15 #[.val (.long y1), .second, .val (.long y2), .second, .val (.long y3), .second, .val (.long y4), .second, .val (.long y5), .second, .val (.long v5), .second, .val (.long v13), .second, .unset, .unset, .unset, .unset, .unset, .unset, .unset, .unset, .unset, .unset, .unset, .unset, .unset, .unset, .unset, .unset, .unset, .unset] [])) t → Steps p.tables e below (s₁.setTop (entryFrame m #[(.long y1), (.long y2), (.long y3), (.long y4), (.long y5)] maxLocals)) t := by
    intro t k
    rw [hv13] at k
    refine pre1 _ ?_
    show Steps p.tables e below (s₁.setTop (mkF m 7 #[.val (.long y1), .second, .val (.long y2), .second, .val (.long y3), .second, .val (.long y4), .second, .val (.long y5), .second, .val (.long v5), .second, .unset, .unset, .unset, .unset, .unset, .unset, .unset, .unset, .unset, .unset, .unset, .unset, .unset, .unset, .unset, .unset, .unset, .unset, .unset, .unset] [])) _
    refine XS.lload X0.here hx rfl (hb hby at_7) rfl ?_
    show Steps p.tables e below (s₁.setTop (mkF m 9 #[.val (.long y1), .second, .val (.long y2), .second, .val (.long y3), .second, .val (.long y4), .second, .val (.long y5), .second, .val (.long v5), .second, .unset, .unset, .unset, .unset, .unset, .unset, .unset, .unset, .unset, .unset, .unset, .unset, .unset, .unset, .unset, .unset, .unset, .unset, .unset, .unset] [(.long y3)])) _
    refine X0.ldc2Long hx hown (mvT hZ (hw _ (List.mem_of_getElem? (i := 0) rfl))) (g := (mkF m 9 #[.val (.long y1), .second, .val (.long y2), .second, .val (.long y3), .second, .val (.long y4), .second, .val (.long y5), .second, .val (.long v5), .second, .unset, .unset, .unset, .unset, .unset, .unset, .unset, .unset, .unset, .unset, .unset, .unset, .unset, .unset, .unset, .unset, .unset, .unset, .unset, .unset] [(.long y3)])) rfl (hb hby at_9) _ ?_
    show Steps p.tables e below (s₁.setTop (mkF m 12 #[.val (.long y1), .second, .val (.long y2), .second, .val (.long y3), .second, .val (.long y4), .second, .val (.long y5), .second, .val (.long v5), .second, .unset, .unset, .unset, .unset, .unset, .unset, .unset, .unset, .unset, .unset, .unset, .unset, .unset, .unset, .unset, .unset, .unset, .unset, .unset, .unset] [(.long (1048575 : Int64)), (.long y3)])) _
    refine XS.land X0.here hx rfl (hb hby at_12) rfl ?_
    show Steps p.tables e below (s₁.setTop (mkF m 13 #[.val (.long y1), .second, .val (.long y2), .second, .val (.long y3), .second, .val (.long y4), .second, .val (.long y5), .second, .val (.long v5), .second, .unset, .unset, .unset, .unset, .unset, .unset, .unset, .unset, .unset, .unset, .unset, .unset, .unset, .unset, .unset, .unset, .unset, .unset, .unset, .unset] [(.long (y3 &&& (1048575 : Int64)))])) _
    refine XS.lstore X0.here hx rfl (hb hby at_13) rfl (l' := #[.val (.long y1), .second, .val (.long y2), .second, .val (.long y3), .second, .val (.long y4), .second, .val (.long y5), .second, .val (.long v5), .second, .val (.long (y3 &&& (1048575 : Int64))), .second, .unset, .unset, .unset, .unset, .unset, .unset, .unset, .unset, .unset, .unset, .unset, .unset, .unset, .unset, .unset, .unset, .unset, .unset]) rfl ?_
    exact k
  obtain ⟨_, _, ⟨T3, L3, k3, n3⟩, -, X3, ⟨Lc3, hQ3, l3, y3, z3⟩, st3⟩ := Jvm.LawKit.callS X0 hx (y := (⟨"java/lang/Math", "min", "(JJ)J"⟩ : MethodName)) hown (mvT hZ (hw _ (List.mem_of_getElem? (i := 1) rfl))) (mvT hZ (hw _ (List.mem_of_getElem? (i := 2) rfl))) (mvT hZ (hw _ (List.mem_of_getElem? (i := 3) rfl))) (mvT hZ (hw _ (List.mem_of_getElem? (i := 4) rfl))) (by decide) (backOf (W := 0) (own_rm1 l Z a0 hw [] v5 v13 h0 n0 Z0 ) hZ (hw _ (List.mem_of_getElem? (i := 4) rfl)) (hw _ (List.mem_of_getElem? (i := 3) rfl)) (by decide) (by decide)) (g := (mkF m 19 #[.val (.long y1), .second, .val (.long y2), .second, .val (.long y3), .second, .val (.long y4), .second, .val (.long y5), .second, .val (.long v5), .second, .val (.long v13), .second, .unset, .unset, .unset, .unset, .unset, .unset, .unset, .unset, .unset, .unset, .unset, .unset, .unset, .unset, .unset, .unset, .unset, .unset] [(.long v13), (.long v5)])) rfl (by rw [hml]; rfl) (argsL := [(.long v5), (.long v13)]) (rest := []) (lenOf own_pd0 rfl) rfl (by show 2 * 0 + _ ≤ _; exact Nat.le_of_eq rfl) (hb hby at_19) (fun _ _ => ⟨rfl, e0, (by decide : 0 + 0 ≤ _), (by decide : 0 + 0 ≤ _)⟩)
  dsimp only [Pt.U, Pt.locs, Pt.cells, Pt.slots] at X3 l3 y3 z3 st3 hQ3
  subst l3 y3 z3
  obtain ⟨rfl, N3q, eh3⟩ := hQ3
  have N3 := Fr.app N0 N3q
  obtain ⟨v22, hv22⟩ : ∃ w : Int64, w = (own_minL v5 v13) := ⟨_, rfl⟩
  have pre4 : ∀ t, Steps p.tables e below (T3.setTop (mkF m 24 #[.val (.long y1), .second, .val (.long y2), .second, .val (.long y3), .second, .val (.long y4), .second, .val (.long y5), .second, .val (.long v5), .second, .val (.long v13), .second, .val (.long v22), .second, .unset, .unset, .unset, .unset, .unset, .unset, .unset, .unset, .unset, .unset, .unset, .unset, .unset, .unset, .unset, .unset] [])) t → Steps p.tables e below (s₁.setTop (entryFrame m #[(.long y1), (.long y2), (.long y3), (.long y4), (.long y5)] maxLocals)) t := by
    intro t k
    rw [hv22] at k
    refine pre2 _ ?_
    show Steps p.tables e below (s₁.setTop (mkF m 15 #[.val (.long y1), .second, .val (.long y2), .second, .val (.long y3), .second, .val (.long y4), .second, .val (.long y5), .second, .val (.long v5), .second, .val (.long v13), .second, .unset, .unset, .unset, .unset, .unset, .unset, .unset, .unset, .unset, .unset, .unset, .unset, .unset, .unset, .unset, .unset, .unset, .unset] [])) _
    refine XS.lload X0.here hx rfl (hb hby at_15) rfl ?_
    show Steps p.tables e below (s₁.setTop (mkF m 17 #[.val (.long y1), .second, .val (.long y2), .second, .val (.long y3), .second, .val (.long y4), .second, .val (.long y5), .second, .val (.long v5), .second, .val (.long v13), .second, .unset, .unset, .unset, .unset, .unset, .unset, .unset, .unset, .unset, .unset, .unset, .unset, .unset, .unset, .unset, .unset, .unset, .unset] [(.long v5)])) _
    refine XS.lload X0.here hx rfl (hb hby at_17) rfl ?_
    show Steps p.tables e below (s₁.setTop (mkF m 19 #[.val (.long y1), .second, .val (.long y2), .second, .val (.long y3), .second, .val (.long y4), .second, .val (.long y5), .second, .val (.long v5), .second, .val (.long v13), .second, .unset, .unset, .unset, .unset, .unset, .unset, .unset, .unset, .unset, .unset, .unset, .unset, .unset, .unset, .unset, .unset, .unset, .unset] [(.long v13), (.long v5)])) _
    refine st3 _ ?_
    show Steps p.tables e below (T3.setTop (mkF m 22 #[.val (.long y1), .second, .val (.long y2), .second, .val (.long y3), .second, .val (.long y4), .second, .val (.long y5), .second, .val (.long v5), .second, .val (.long v13), .second, .unset, .unset, .unset, .unset, .unset, .unset, .unset, .unset, .unset, .unset, .unset, .unset, .unset, .unset, .unset, .unset, .unset, .unset] [(.long (own_minL v5 v13))])) _
    refine XS.lstore X3.here hx rfl (hb hby at_22) rfl (l' := #[.val (.long y1), .second, .val (.long y2), .second, .val (.long y3), .second, .val (.long y4), .second, .val (.long y5), .second, .val (.long v5), .second, .val (.long v13), .second, .val (.long (own_minL v5 v13)), .second, .unset, .unset, .unset, .unset, .unset, .unset, .unset, .unset, .unset, .unset, .unset, .unset, .unset, .unset, .unset, .unset]) rfl ?_
    exact k
  have hf := own_m20 y2
  rw [← hv5] at hf
  have he' := own_m20 y3
  rw [← hv13] at he'
  obtain ⟨hmf, hme, hmo⟩ := own_minR (f := v5) (e := v13)
  rw [← hv22] at hmf hme hmo
  have hm0 : 0 ≤ v22.toInt := by rcases hmo with q | q <;> rw [q] <;> omega
  have hm1 : v22.toInt < 9000000000000 := by omega
  obtain ⟨v34, hv34⟩ : ∃ w : Int64, w = ((y1 &&& (9223372036854775807 : Int64)) - ((y1 &&& (9223372036854775807 : Int64)) / (v22 + (1 : Int64))) * (v22 + (1 : Int64))) := ⟨_, rfl⟩
  have pre5 : ∀ t, Steps p.tables e below (T3.setTop (mkF m 36 #[.val (.long y1), .second, .val (.long y2), .second, .val (.long y3), .second, .val (.long y4), .second, .val (.long y5), .second, .val (.long v5), .second, .val (.long v13), .second, .val (.long v22), .second, .val (.long v34), .second, .unset, .unset, .unset, .unset, .unset, .unset, .unset, .unset, .unset, .unset, .unset, .unset, .unset, .unset] [])) t → Steps p.tables e below (s₁.setTop (entryFrame m #[(.long y1), (.long y2), (.long y3), (.long y4), (.long y5)] maxLocals)) t := by
    intro t k
    rw [hv34] at k
    refine pre4 _ ?_
    show Steps p.tables e below (T3.setTop (mkF m 24 #[.val (.long y1), .second, .val (.long y2), .second, .val (.long y3), .second, .val (.long y4), .second, .val (.long y5), .second, .val (.long v5), .second, .val (.long v13), .second, .val (.long v22), .second, .unset, .unset, .unset, .unset, .unset, .unset, .unset, .unset, .unset, .unset, .unset, .unset, .unset, .unset, .unset, .unset] [])) _
    refine XS.lloadN X3.here hx rfl (hb hby at_24) rfl ?_
    show Steps p.tables e below (T3.setTop (mkF m 25 #[.val (.long y1), .second, .val (.long y2), .second, .val (.long y3), .second, .val (.long y4), .second, .val (.long y5), .second, .val (.long v5), .second, .val (.long v13), .second, .val (.long v22), .second, .unset, .unset, .unset, .unset, .unset, .unset, .unset, .unset, .unset, .unset, .unset, .unset, .unset, .unset, .unset, .unset] [(.long y1)])) _
    refine X3.ldc2Long hx hown (mvT hZ (hw _ (List.mem_of_getElem? (i := 5) rfl))) (g := (mkF m 25 #[.val (.long y1), .second, .val (.long y2), .second, .val (.long y3), .second, .val (.long y4), .second, .val (.long y5), .second, .val (.long v5), .second, .val (.long v13), .second, .val (.long v22), .second, .unset, .unset, .unset, .unset, .unset, .unset, .unset, .unset, .unset, .unset, .unset, .unset, .unset, .unset, .unset, .unset] [(.long y1)])) rfl (hb hby at_25) _ ?_
    show Steps p.tables e below (T3.setTop (mkF m 28 #[.val (.long y1), .second, .val (.long y2), .second, .val (.long y3), .second, .val (.long y4), .second, .val (.long y5), .second, .val (.long v5), .second, .val (.long v13), .second, .val (.long v22), .second, .unset, .unset, .unset, .unset, .unset, .unset, .unset, .unset, .unset, .unset, .unset, .unset, .unset, .unset, .unset, .unset] [(.long (9223372036854775807 : Int64)), (.long y1)])) _
    refine XS.land X3.here hx rfl (hb hby at_28) rfl ?_
    show Steps p.tables e below (T3.setTop (mkF m 29 #[.val (.long y1), .second, .val (.long y2), .second, .val (.long y3), .second, .val (.long y4), .second, .val (.long y5), .second, .val (.long v5), .second, .val (.long v13), .second, .val (.long v22), .second, .unset, .unset, .unset, .unset, .unset, .unset, .unset, .unset, .unset, .unset, .unset, .unset, .unset, .unset, .unset, .unset] [(.long (y1 &&& (9223372036854775807 : Int64)))])) _
    refine XS.lload X3.here hx rfl (hb hby at_29) rfl ?_
    show Steps p.tables e below (T3.setTop (mkF m 31 #[.val (.long y1), .second, .val (.long y2), .second, .val (.long y3), .second, .val (.long y4), .second, .val (.long y5), .second, .val (.long v5), .second, .val (.long v13), .second, .val (.long v22), .second, .unset, .unset, .unset, .unset, .unset, .unset, .unset, .unset, .unset, .unset, .unset, .unset, .unset, .unset, .unset, .unset] [(.long v22), (.long (y1 &&& (9223372036854775807 : Int64)))])) _
    refine XS.lconst X3.here hx rfl (hb hby at_31) ?_
    show Steps p.tables e below (T3.setTop (mkF m 32 #[.val (.long y1), .second, .val (.long y2), .second, .val (.long y3), .second, .val (.long y4), .second, .val (.long y5), .second, .val (.long v5), .second, .val (.long v13), .second, .val (.long v22), .second, .unset, .unset, .unset, .unset, .unset, .unset, .unset, .unset, .unset, .unset, .unset, .unset, .unset, .unset, .unset, .unset] [(.long (1 : Int64)), (.long v22), (.long (y1 &&& (9223372036854775807 : Int64)))])) _
    refine XS.ladd X3.here hx rfl (hb hby at_32) rfl ?_
    show Steps p.tables e below (T3.setTop (mkF m 33 #[.val (.long y1), .second, .val (.long y2), .second, .val (.long y3), .second, .val (.long y4), .second, .val (.long y5), .second, .val (.long v5), .second, .val (.long v13), .second, .val (.long v22), .second, .unset, .unset, .unset, .unset, .unset, .unset, .unset, .unset, .unset, .unset, .unset, .unset, .unset, .unset, .unset, .unset] [(.long (v22 + (1 : Int64))), (.long (y1 &&& (9223372036854775807 : Int64)))])) _
    refine XS.lrem X3.here hx rfl (hb hby at_33) rfl (own_remR y1 v22 hm0 hm1).1 ?_
    show Steps p.tables e below (T3.setTop (mkF m 34 #[.val (.long y1), .second, .val (.long y2), .second, .val (.long y3), .second, .val (.long y4), .second, .val (.long y5), .second, .val (.long v5), .second, .val (.long v13), .second, .val (.long v22), .second, .unset, .unset, .unset, .unset, .unset, .unset, .unset, .unset, .unset, .unset, .unset, .unset, .unset, .unset, .unset, .unset] [(.long ((y1 &&& (9223372036854775807 : Int64)) - ((y1 &&& (9223372036854775807 : Int64)) / (v22 + (1 : Int64))) * (v22 + (1 : Int64))))])) _
    refine XS.lstore X3.here hx rfl (hb hby at_34) rfl (l' := #[.val (.long y1), .second, .val (.long y2), .second, .val (.long y3), .second, .val (.long y4), .second, .val (.long y5), .second, .val (.long v5), .second, .val (.long v13), .second, .val (.long v22), .second, .val (.long ((y1 &&& (9223372036854775807 : Int64)) - ((y1 &&& (9223372036854775807 : Int64)) / (v22 + (1 : Int64))) * (v22 + (1 : Int64)))), .second, .unset, .unset, .unset, .unset, .unset, .unset, .unset, .unset, .unset, .unset, .unset, .unset, .unset, .unset]) rfl ?_
    exact k
  have hcc := (own_remR y1 v22 hm0 hm1).2
  rw [← hv34] at hcc
  have hcl : v34.toInt ≤ 1048576 := by omega
  obtain ⟨v44, hv44⟩ : ∃ w : Int64, w = ((y5 &&& (2097151 : Int64)) + (1 : Int64)) := ⟨_, rfl⟩
  have pre6 : ∀ t, Steps p.tables e below (T3.setTop (mkF m 46 #[.val (.long y1), .second, .val (.long y2), .second, .val (.long y3), .second, .val (.long y4), .second, .val (.long y5), .second, .val (.long v5), .second, .val (.long v13), .second, .val (.long v22), .second, .val (.long v34), .second, .val (.long v44), .second, .unset, .unset, .unset, .unset, .unset, .unset, .unset, .unset, .unset, .unset, .unset, .unset] [])) t → Steps p.tables e below (s₁.setTop (entryFrame m #[(.long y1), (.long y2), (.long y3), (.long y4), (.long y5)] maxLocals)) t := by
    intro t k
    rw [hv44] at k
    refine pre5 _ ?_
    show Steps p.tables e below (T3.setTop (mkF m 36 #[.val (.long y1), .second, .val (.long y2), .second, .val (.long y3), .second, .val (.long y4), .second, .val (.long y5), .second, .val (.long v5), .second, .val (.long v13), .second, .val (.long v22), .second, .val (.long v34), .second, .unset, .unset, .unset, .unset, .unset, .unset, .unset, .unset, .unset, .unset, .unset, .unset, .unset, .unset] [])) _
    refine XS.lload X3.here hx rfl (hb hby at_36) rfl ?_
    show Steps p.tables e below (T3.setTop (mkF m 38 #[.val (.long y1), .second, .val (.long y2), .second, .val (.long y3), .second, .val (.long y4), .second, .val (.long y5), .second, .val (.long v5), .second, .val (.long v13), .second, .val (.long v22), .second, .val (.long v34), .second, .unset, .unset, .unset, .unset, .unset, .unset, .unset, .unset, .unset, .unset, .unset, .unset, .unset, .unset] [(.long y5)])) _
    refine X3.ldc2Long hx hown (mvT hZ (hw _ (List.mem_of_getElem? (i := 6) rfl))) (g := (mkF m 38 #[.val (.long y1), .second, .val (.long y2), .second, .val (.long y3), .second, .val (.long y4), .second, .val (.long y5), .second, .val (.long v5), .second, .val (.long v13), .second, .val (.long v22), .second, .val (.long v34), .second, .unset, .unset, .unset, .unset, .unset, .unset, .unset, .unset, .unset, .unset, .unset, .unset, .unset, .unset] [(.long y5)])) rfl (hb hby at_38) _ ?_
    show Steps p.tables e below (T3.setTop (mkF m 41 #[.val (.long y1), .second, .val (.long y2), .second, .val (.long y3), .second, .val (.long y4), .second, .val (.long y5), .second, .val (.long v5), .second, .val (.long v13), .second, .val (.long v22), .second, .val (.long v34), .second, .unset, .unset, .unset, .unset, .unset, .unset, .unset, .unset, .unset, .unset, .unset, .unset, .unset, .unset] [(.long (2097151 : Int64)), (.long y5)])) _
    refine XS.land X3.here hx rfl (hb hby at_41) rfl ?_
    show Steps p.tables e below (T3.setTop (mkF m 42 #[.val (.long y1), .second, .val (.long y2), .second, .val (.long y3), .second, .val (.long y4), .second, .val (.long y5), .second, .val (.long v5), .second, .val (.long v13), .second, .val (.long v22), .second, .val (.long v34), .second, .unset, .unset, .unset, .unset, .unset, .unset, .unset, .unset, .unset, .unset, .unset, .unset, .unset, .unset] [(.long (y5 &&& (2097151 : Int64)))])) _
    refine XS.lconst X3.here hx rfl (hb hby at_42) ?_
    show Steps p.tables e below (T3.setTop (mkF m 43 #[.val (.long y1), .second, .val (.long y2), .second, .val (.long y3), .second, .val (.long y4), .second, .val (.long y5), .second, .val (.long v5), .second, .val (.long v13), .second, .val (.long v22), .second, .val (.long v34), .second, .unset, .unset, .unset, .unset, .unset, .unset, .unset, .unset, .unset, .unset, .unset, .unset, .unset, .unset] [(.long (1 : Int64)), (.long (y5 &&& (2097151 : Int64)))])) _
    refine XS.ladd X3.here hx rfl (hb hby at_43) rfl ?_
    show Steps p.tables e below (T3.setTop (mkF m 44 #[.val (.long y1), .second, .val (.long y2), .second, .val (.long y3), .second, .val (.long y4), .second, .val (.long y5), .second, .val (.long v5), .second, .val (.long v13), .second, .val (.long v22), .second, .val (.long v34), .second, .unset, .unset, .unset, .unset, .unset, .unset, .unset, .unset, .unset, .unset, .unset, .unset, .unset, .unset] [(.long ((y5 &&& (2097151 : Int64)) + (1 : Int64)))])) _
    refine XS.lstore X3.here hx rfl (hb hby at_44) rfl (l' := #[.val (.long y1), .second, .val (.long y2), .second, .val (.long y3), .second, .val (.long y4), .second, .val (.long y5), .second, .val (.long v5), .second, .val (.long v13), .second, .val (.long v22), .second, .val (.long v34), .second, .val (.long ((y5 &&& (2097151 : Int64)) + (1 : Int64))), .second, .unset, .unset, .unset, .unset, .unset, .unset, .unset, .unset, .unset, .unset, .unset, .unset]) rfl ?_
    exact k
  have hyy := own_m21 y5
  rw [← hv44] at hyy
  have hy0 : 0 ≤ v44.toInt := by omega
  have hy1 : v44.toInt < 9000000000000 := by omega
  obtain ⟨v57, hv57⟩ : ∃ w : Int64, w = ((y4 &&& (9223372036854775807 : Int64)) - ((y4 &&& (9223372036854775807 : Int64)) / (v44 + (1 : Int64))) * (v44 + (1 : Int64))) := ⟨_, rfl⟩
  have pre7 : ∀ t, Steps p.tables e below (T3.setTop (mkF m 59 #[.val (.long y1), .second, .val (.long y2), .second, .val (.long y3), .second, .val (.long y4), .second, .val (.long y5), .second, .val (.long v5), .second, .val (.long v13), .second, .val (.long v22), .second, .val (.long v34), .second, .val (.long v44), .second, .val (.long v57), .second, .unset, .unset, .unset, .unset, .unset, .unset, .unset, .unset, .unset, .unset] [])) t → Steps p.tables e below (s₁.setTop (entryFrame m #[(.long y1), (.long y2), (.long y3), (.long y4), (.long y5)] maxLocals)) t := by
    intro t k
    rw [hv57] at k
    refine pre6 _ ?_
    show Steps p.tables e below (T3.setTop (mkF m 46 #[.val (.long y1), .second, .val (.long y2), .second, .val (.long y3), .second, .val (.long y4), .second, .val (.long y5), .second, .val (.long v5), .second, .val (.long v13), .second, .val (.long v22), .second, .val (.long v34), .second, .val (.long v44), .second, .unset, .unset, .unset, .unset, .unset, .unset, .unset, .unset, .unset, .unset, .unset, .unset] [])) _
    refine XS.lload X3.here hx rfl (hb hby at_46) rfl ?_
    show Steps p.tables e below (T3.setTop (mkF m 48 #[.val (.long y1), .second, .val (.long y2), .second, .val (.long y3), .second, .val (.long y4), .second, .val (.long y5), .second, .val (.long v5), .second, .val (.long v13), .second, .val (.long v22), .second, .val (.long v34), .second, .val (.long v44), .second, .unset, .unset, .unset, .unset, .unset, .unset, .unset, .unset, .unset, .unset, .unset, .unset] [(.long y4)])) _
    refine X3.ldc2Long hx hown (mvT hZ (hw _ (List.mem_of_getElem? (i := 5) rfl))) (g := (mkF m 48 #[.val (.long y1), .second, .val (.long y2), .second, .val (.long y3), .second, .val (.long y4), .second, .val (.long y5), .second, .val (.long v5), .second, .val (.long v13), .second, .val (.long v22), .second, .val (.long v34), .second, .val (.long v44), .second, .unset, .unset, .unset, .unset, .unset, .unset, .unset, .unset, .unset, .unset, .unset, .unset] [(.long y4)])) rfl (hb hby at_48) _ ?_
    show Steps p.tables e below (T3.setTop (mkF m 51 #[.val (.long y1), .second, .val (.long y2), .second, .val (.long y3), .second, .val (.long y4), .second, .val (.long y5), .second, .val (.long v5), .second, .val (.long v13), .second, .val (.long v22), .second, .val (.long v34), .second, .val (.long v44), .second, .unset, .unset, .unset, .unset, .unset, .unset, .unset, .unset, .unset, .unset, .unset, .unset] [(.long (9223372036854775807 : Int64)), (.long y4)])) _
    refine XS.land X3.here hx rfl (hb hby at_51) rfl ?_
    show Steps p.tables e below (T3.setTop (mkF m 52 #[.val (.long y1), .second, .val (.long y2), .second, .val (.long y3), .second, .val (.long y4), .second, .val (.long y5), .second, .val (.long v5), .second, .val (.long v13), .second, .val (.long v22), .second, .val (.long v34), .second, .val (.long v44), .second, .unset, .unset, .unset, .unset, .unset, .unset, .unset, .unset, .unset, .unset, .unset, .unset] [(.long (y4 &&& (9223372036854775807 : Int64)))])) _
    refine XS.lload X3.here hx rfl (hb hby at_52) rfl ?_
    show Steps p.tables e below (T3.setTop (mkF m 54 #[.val (.long y1), .second, .val (.long y2), .second, .val (.long y3), .second, .val (.long y4), .second, .val (.long y5), .second, .val (.long v5), .second, .val (.long v13), .second, .val (.long v22), .second, .val (.long v34), .second, .val (.long v44), .second, .unset, .unset, .unset, .unset, .unset, .unset, .unset, .unset, .unset, .unset, .unset, .unset] [(.long v44), (.long (y4 &&& (9223372036854775807 : Int64)))])) _
    refine XS.lconst X3.here hx rfl (hb hby at_54) ?_
    show Steps p.tables e below (T3.setTop (mkF m 55 #[.val (.long y1), .second, .val (.long y2), .second, .val (.long y3), .second, .val (.long y4), .second, .val (.long y5), .second, .val (.long v5), .second, .val (.long v13), .second, .val (.long v22), .second, .val (.long v34), .second, .val (.long v44), .second, .unset, .unset, .unset, .unset, .unset, .unset, .unset, .unset, .unset, .unset, .unset, .unset] [(.long (1 : Int64)), (.long v44), (.long (y4 &&& (9223372036854775807 : Int64)))])) _
    refine XS.ladd X3.here hx rfl (hb hby at_55) rfl ?_
    show Steps p.tables e below (T3.setTop (mkF m 56 #[.val (.long y1), .second, .val (.long y2), .second, .val (.long y3), .second, .val (.long y4), .second, .val (.long y5), .second, .val (.long v5), .second, .val (.long v13), .second, .val (.long v22), .second, .val (.long v34), .second, .val (.long v44), .second, .unset, .unset, .unset, .unset, .unset, .unset, .unset, .unset, .unset, .unset, .unset, .unset] [(.long (v44 + (1 : Int64))), (.long (y4 &&& (9223372036854775807 : Int64)))])) _
    refine XS.lrem X3.here hx rfl (hb hby at_56) rfl (own_remR y4 v44 hy0 hy1).1 ?_
    show Steps p.tables e below (T3.setTop (mkF m 57 #[.val (.long y1), .second, .val (.long y2), .second, .val (.long y3), .second, .val (.long y4), .second, .val (.long y5), .second, .val (.long v5), .second, .val (.long v13), .second, .val (.long v22), .second, .val (.long v34), .second, .val (.long v44), .second, .unset, .unset, .unset, .unset, .unset, .unset, .unset, .unset, .unset, .unset, .unset, .unset] [(.long ((y4 &&& (9223372036854775807 : Int64)) - ((y4 &&& (9223372036854775807 : Int64)) / (v44 + (1 : Int64))) * (v44 + (1 : Int64))))])) _
    refine XS.lstore X3.here hx rfl (hb hby at_57) rfl (l' := #[.val (.long y1), .second, .val (.long y2), .second, .val (.long y3), .second, .val (.long y4), .second, .val (.long y5), .second, .val (.long v5), .second, .val (.long v13), .second, .val (.long v22), .second, .val (.long v34), .second, .val (.long v44), .second, .val (.long ((y4 &&& (9223372036854775807 : Int64)) - ((y4 &&& (9223372036854775807 : Int64)) / (v44 + (1 : Int64))) * (v44 + (1 : Int64)))), .second, .unset, .unset, .unset, .unset, .unset, .unset, .unset, .unset, .unset, .unset]) rfl ?_
    exact k
  have hxx := (own_remR y4 v44 hy0 hy1).2
  rw [← hv57] at hxx
  have R2 : own_Ratio v57 v44 := ⟨hxx.1, hxx.2, by omega, by omega⟩
  have hs := own_ladd (x := v13) (y := v5) rfl rfl (by omega) (by omega)
  have h2c := own_lmul (x := 2) (y := v34) (show (2 : Int64).toInt = 2 by decide) rfl (by omega) (by omega)
  have R1 : 0 < (v13 + v5).toInt → own_Ratio ((2 : Int64) * v34) (v13 + v5) := fun q => ⟨by omega, by omega, by omega, by omega⟩
  have hR : ¬ (v34 = (0 : Int64)) → own_Ratio ((2 : Int64) * v34) (v13 + v5) := fun q => by
    have z : v34.toInt ≠ 0 := fun z => q (Int64.toInt_inj.mp (by rw [z]; rfl))
    exact R1 (by omega)
  obtain ⟨_, _, ⟨T8, L8, k8, n8⟩, -, X8, ⟨Lc8, hQ8, l8, y8, z8⟩, st8⟩ := Jvm.LawKit.callS X3 hx (y := (⟨"com/example/zhengzi/zhengzi/PrecisionRecall", "f1", "(JJJ)D"⟩ : MethodName)) hown (mvT hZ (hw _ (List.mem_of_getElem? (i := 7) rfl))) (mvT hZ (hw _ (List.mem_of_getElem? (i := 8) rfl))) (mvT hZ (hw _ (List.mem_of_getElem? (i := 9) rfl))) (mvT hZ (hw _ (List.mem_of_getElem? (i := 10) rfl))) (by decide) (backOf (W := 0) (own_rm2 l Z a0 hw [] v34 v5 v13 h0 n0 Z0 (hcc.1) (hcl) (hR)) hZ (hw _ (List.mem_of_getElem? (i := 10) rfl)) (hw _ (List.mem_of_getElem? (i := 9) rfl)) (by decide) (by decide)) (g := (mkF m 65 #[.val (.long y1), .second, .val (.long y2), .second, .val (.long y3), .second, .val (.long y4), .second, .val (.long y5), .second, .val (.long v5), .second, .val (.long v13), .second, .val (.long v22), .second, .val (.long v34), .second, .val (.long v44), .second, .val (.long v57), .second, .unset, .unset, .unset, .unset, .unset, .unset, .unset, .unset, .unset, .unset] [(.long v13), (.long v5), (.long v34)])) rfl (by rw [hml]; rfl) (argsL := [(.long v34), (.long v5), (.long v13)]) (rest := []) (lenOf own_pd1 rfl) rfl (by show 2 * 0 + _ ≤ _; exact Nat.le_of_eq rfl) (hb hby at_65) (fun _ _ => ⟨rfl, eh3, (by decide : 0 + 0 ≤ _), (by decide : 0 + 0 ≤ _)⟩)
  dsimp only [Pt.U, Pt.locs, Pt.cells, Pt.slots] at X8 l8 y8 z8 st8 hQ8
  subst l8 y8 z8
  obtain ⟨rfl, N8q, eh8⟩ := hQ8
  have N8 := Fr.app N3 N8q
  obtain ⟨v68, hv68⟩ : ∃ w : UInt64, w = (own_f1 v34 v5 v13) := ⟨_, rfl⟩
  have pre9 : ∀ t, Steps p.tables e below (T8.setTop (mkF m 70 #[.val (.long y1), .second, .val (.long y2), .second, .val (.long y3), .second, .val (.long y4), .second, .val (.long y5), .second, .val (.long v5), .second, .val (.long v13), .second, .val (.long v22), .second, .val (.long v34), .second, .val (.long v44), .second, .val (.long v57), .second, .val (.double v68), .second, .unset, .unset, .unset, .unset, .unset, .unset, .unset, .unset] [])) t → Steps p.tables e below (s₁.setTop (entryFrame m #[(.long y1), (.long y2), (.long y3), (.long y4), (.long y5)] maxLocals)) t := by
    intro t k
    rw [hv68] at k
    refine pre7 _ ?_
    show Steps p.tables e below (T3.setTop (mkF m 59 #[.val (.long y1), .second, .val (.long y2), .second, .val (.long y3), .second, .val (.long y4), .second, .val (.long y5), .second, .val (.long v5), .second, .val (.long v13), .second, .val (.long v22), .second, .val (.long v34), .second, .val (.long v44), .second, .val (.long v57), .second, .unset, .unset, .unset, .unset, .unset, .unset, .unset, .unset, .unset, .unset] [])) _
    refine XS.lload X3.here hx rfl (hb hby at_59) rfl ?_
    show Steps p.tables e below (T3.setTop (mkF m 61 #[.val (.long y1), .second, .val (.long y2), .second, .val (.long y3), .second, .val (.long y4), .second, .val (.long y5), .second, .val (.long v5), .second, .val (.long v13), .second, .val (.long v22), .second, .val (.long v34), .second, .val (.long v44), .second, .val (.long v57), .second, .unset, .unset, .unset, .unset, .unset, .unset, .unset, .unset, .unset, .unset] [(.long v34)])) _
    refine XS.lload X3.here hx rfl (hb hby at_61) rfl ?_
    show Steps p.tables e below (T3.setTop (mkF m 63 #[.val (.long y1), .second, .val (.long y2), .second, .val (.long y3), .second, .val (.long y4), .second, .val (.long y5), .second, .val (.long v5), .second, .val (.long v13), .second, .val (.long v22), .second, .val (.long v34), .second, .val (.long v44), .second, .val (.long v57), .second, .unset, .unset, .unset, .unset, .unset, .unset, .unset, .unset, .unset, .unset] [(.long v5), (.long v34)])) _
    refine XS.lload X3.here hx rfl (hb hby at_63) rfl ?_
    show Steps p.tables e below (T3.setTop (mkF m 65 #[.val (.long y1), .second, .val (.long y2), .second, .val (.long y3), .second, .val (.long y4), .second, .val (.long y5), .second, .val (.long v5), .second, .val (.long v13), .second, .val (.long v22), .second, .val (.long v34), .second, .val (.long v44), .second, .val (.long v57), .second, .unset, .unset, .unset, .unset, .unset, .unset, .unset, .unset, .unset, .unset] [(.long v13), (.long v5), (.long v34)])) _
    refine st8 _ ?_
    show Steps p.tables e below (T8.setTop (mkF m 68 #[.val (.long y1), .second, .val (.long y2), .second, .val (.long y3), .second, .val (.long y4), .second, .val (.long y5), .second, .val (.long v5), .second, .val (.long v13), .second, .val (.long v22), .second, .val (.long v34), .second, .val (.long v44), .second, .val (.long v57), .second, .unset, .unset, .unset, .unset, .unset, .unset, .unset, .unset, .unset, .unset] [(.double (own_f1 v34 v5 v13))])) _
    refine XS.dstore X8.here hx rfl (hb hby at_68) rfl (l' := #[.val (.long y1), .second, .val (.long y2), .second, .val (.long y3), .second, .val (.long y4), .second, .val (.long y5), .second, .val (.long v5), .second, .val (.long v13), .second, .val (.long v22), .second, .val (.long v34), .second, .val (.long v44), .second, .val (.long v57), .second, .val (.double (own_f1 v34 v5 v13)), .second, .unset, .unset, .unset, .unset, .unset, .unset, .unset, .unset]) rfl ?_
    exact k
  obtain ⟨v75, hv75⟩ : ∃ w : Int64, w = (v13 + v5) := ⟨_, rfl⟩
  have pre10 : ∀ t, Steps p.tables e below (T8.setTop (mkF m 77 #[.val (.long y1), .second, .val (.long y2), .second, .val (.long y3), .second, .val (.long y4), .second, .val (.long y5), .second, .val (.long v5), .second, .val (.long v13), .second, .val (.long v22), .second, .val (.long v34), .second, .val (.long v44), .second, .val (.long v57), .second, .val (.double v68), .second, .val (.long v75), .second, .unset, .unset, .unset, .unset, .unset, .unset] [])) t → Steps p.tables e below (s₁.setTop (entryFrame m #[(.long y1), (.long y2), (.long y3), (.long y4), (.long y5)] maxLocals)) t := by
    intro t k
    rw [hv75] at k
    refine pre9 _ ?_
    show Steps p.tables e below (T8.setTop (mkF m 70 #[.val (.long y1), .second, .val (.long y2), .second, .val (.long y3), .second, .val (.long y4), .second, .val (.long y5), .second, .val (.long v5), .second, .val (.long v13), .second, .val (.long v22), .second, .val (.long v34), .second, .val (.long v44), .second, .val (.long v57), .second, .val (.double v68), .second, .unset, .unset, .unset, .unset, .unset, .unset, .unset, .unset] [])) _
    refine XS.lload X8.here hx rfl (hb hby at_70) rfl ?_
    show Steps p.tables e below (T8.setTop (mkF m 72 #[.val (.long y1), .second, .val (.long y2), .second, .val (.long y3), .second, .val (.long y4), .second, .val (.long y5), .second, .val (.long v5), .second, .val (.long v13), .second, .val (.long v22), .second, .val (.long v34), .second, .val (.long v44), .second, .val (.long v57), .second, .val (.double v68), .second, .unset, .unset, .unset, .unset, .unset, .unset, .unset, .unset] [(.long v13)])) _
    refine XS.lload X8.here hx rfl (hb hby at_72) rfl ?_
    show Steps p.tables e below (T8.setTop (mkF m 74 #[.val (.long y1), .second, .val (.long y2), .second, .val (.long y3), .second, .val (.long y4), .second, .val (.long y5), .second, .val (.long v5), .second, .val (.long v13), .second, .val (.long v22), .second, .val (.long v34), .second, .val (.long v44), .second, .val (.long v57), .second, .val (.double v68), .second, .unset, .unset, .unset, .unset, .unset, .unset, .unset, .unset] [(.long v5), (.long v13)])) _
    refine XS.ladd X8.here hx rfl (hb hby at_74) rfl ?_
    show Steps p.tables e below (T8.setTop (mkF m 75 #[.val (.long y1), .second, .val (.long y2), .second, .val (.long y3), .second, .val (.long y4), .second, .val (.long y5), .second, .val (.long v5), .second, .val (.long v13), .second, .val (.long v22), .second, .val (.long v34), .second, .val (.long v44), .second, .val (.long v57), .second, .val (.double v68), .second, .unset, .unset, .unset, .unset, .unset, .unset, .unset, .unset] [(.long (v13 + v5))])) _
    refine XS.lstore X8.here hx rfl (hb hby at_75) rfl (l' := #[.val (.long y1), .second, .val (.long y2), .second, .val (.long y3), .second, .val (.long y4), .second, .val (.long y5), .second, .val (.long v5), .second, .val (.long v13), .second, .val (.long v22), .second, .val (.long v34), .second, .val (.long v44), .second, .val (.long v57), .second, .val (.double v68), .second, .val (.long (v13 + v5)), .second, .unset, .unset, .unset, .unset, .unset, .unset]) rfl ?_
    exact k
  have pre11 : ∀ t, Steps p.tables e below (T8.setTop (mkF m 81 #[.val (.long y1), .second, .val (.long y2), .second, .val (.long y3), .second, .val (.long y4), .second, .val (.long y5), .second, .val (.long v5), .second, .val (.long v13), .second, .val (.long v22), .second, .val (.long v34), .second, .val (.long v44), .second, .val (.long v57), .second, .val (.double v68), .second, .val (.long v75), .second, .unset, .unset, .unset, .unset, .unset, .unset] [(.int (lcmpW v75 (0 : Int64)))])) t → Steps p.tables e below (s₁.setTop (entryFrame m #[(.long y1), (.long y2), (.long y3), (.long y4), (.long y5)] maxLocals)) t := by
    intro t k
    refine pre10 _ ?_
    show Steps p.tables e below (T8.setTop (mkF m 77 #[.val (.long y1), .second, .val (.long y2), .second, .val (.long y3), .second, .val (.long y4), .second, .val (.long y5), .second, .val (.long v5), .second, .val (.long v13), .second, .val (.long v22), .second, .val (.long v34), .second, .val (.long v44), .second, .val (.long v57), .second, .val (.double v68), .second, .val (.long v75), .second, .unset, .unset, .unset, .unset, .unset, .unset] [])) _
    refine XS.lload X8.here hx rfl (hb hby at_77) rfl ?_
    show Steps p.tables e below (T8.setTop (mkF m 79 #[.val (.long y1), .second, .val (.long y2), .second, .val (.long y3), .second, .val (.long y4), .second, .val (.long y5), .second, .val (.long v5), .second, .val (.long v13), .second, .val (.long v22), .second, .val (.long v34), .second, .val (.long v44), .second, .val (.long v57), .second, .val (.double v68), .second, .val (.long v75), .second, .unset, .unset, .unset, .unset, .unset, .unset] [(.long v75)])) _
    refine XS.lconst X8.here hx rfl (hb hby at_79) ?_
    show Steps p.tables e below (T8.setTop (mkF m 80 #[.val (.long y1), .second, .val (.long y2), .second, .val (.long y3), .second, .val (.long y4), .second, .val (.long y5), .second, .val (.long v5), .second, .val (.long v13), .second, .val (.long v22), .second, .val (.long v34), .second, .val (.long v44), .second, .val (.long v57), .second, .val (.double v68), .second, .val (.long v75), .second, .unset, .unset, .unset, .unset, .unset, .unset] [(.long (0 : Int64)), (.long v75)])) _
    refine XS.lcmp X8.here hx rfl (hb hby at_80) rfl ?_
    exact k
  by_cases hc81 : v75 = (0 : Int64)
  · have hq87 : cmpValue (FP.dcmp v68 (0 : UInt64)) .l = (0 : Int32) := by
      rw [hv75] at hc81
      rw [hc81, show (0 : Int64).toInt = 0 by decide] at hs
      have z : v34 = 0 := Int64.toInt_inj.mp (by rw [show (0 : Int64).toInt = 0 by decide]; omega)
      rw [hv68, z]
      unfold own_f1
      rw [if_pos rfl]
      decide +kernel
    obtain ⟨fs, hr, hrun, hended, hW, hsame⟩ := X8.leave (v := some (.int (1 : Int32))) (fun h => by rw [Bd.returns] at h; cases h)
    refine ⟨_, _, pre11 _ ?_, hrun, hended, _, _, rfl, ?_, ⟨_, rfl⟩, hW, hsame.mono (by decide) (by decide)⟩
    · show Steps p.tables e below (T8.setTop (mkF m 81 #[.val (.long y1), .second, .val (.long y2), .second, .val (.long y3), .second, .val (.long y4), .second, .val (.long y5), .second, .val (.long v5), .second, .val (.long v13), .second, .val (.long v22), .second, .val (.long v34), .second, .val (.long v44), .second, .val (.long v57), .second, .val (.double v68), .second, .val (.long v75), .second, .unset, .unset, .unset, .unset, .unset, .unset] [(.int (lcmpW v75 (0 : Int64)))])) _
      refine XS.ifNo X8.here hx rfl (hb hby at_81) rfl ((if0 _ _).trans (teq ((lw_eq v75 (0 : Int64)).mpr hc81)).2) ?_
      show Steps p.tables e below (T8.setTop (mkF m 84 #[.val (.long y1), .second, .val (.long y2), .second, .val (.long y3), .second, .val (.long y4), .second, .val (.long y5), .second, .val (.long v5), .second, .val (.long v13), .second, .val (.long v22), .second, .val (.long v34), .second, .val (.long v44), .second, .val (.long v57), .second, .val (.double v68), .second, .val (.long v75), .second, .unset, .unset, .unset, .unset, .unset, .unset] [])) _
      refine XS.dload X8.here hx rfl (hb hby at_84) rfl ?_
      show Steps p.tables e below (T8.setTop (mkF m 86 #[.val (.long y1), .second, .val (.long y2), .second, .val (.long y3), .second, .val (.long y4), .second, .val (.long y5), .second, .val (.long v5), .second, .val (.long v13), .second, .val (.long v22), .second, .val (.long v34), .second, .val (.long v44), .second, .val (.long v57), .second, .val (.double v68), .second, .val (.long v75), .second, .unset, .unset, .unset, .unset, .unset, .unset] [(.double v68)])) _
      refine XS.dconst0 X8.here hx rfl (hb hby at_86) (v := (0 : UInt64)) rfl ?_
      show Steps p.tables e below (T8.setTop (mkF m 87 #[.val (.long y1), .second, .val (.long y2), .second, .val (.long y3), .second, .val (.long y4), .second, .val (.long y5), .second, .val (.long v5), .second, .val (.long v13), .second, .val (.long v22), .second, .val (.long v34), .second, .val (.long v44), .second, .val (.long v57), .second, .val (.double v68), .second, .val (.long v75), .second, .unset, .unset, .unset, .unset, .unset, .unset] [(.double (0 : UInt64)), (.double v68)])) _
      refine XS.dcmpS X8.here hx rfl (hb hby at_87) rfl hq87 ?_
      show Steps p.tables e below (T8.setTop (mkF m 88 #[.val (.long y1), .second, .val (.long y2), .second, .val (.long y3), .second, .val (.long y4), .second, .val (.long y5), .second, .val (.long v5), .second, .val (.long v13), .second, .val (.long v22), .second, .val (.long v34), .second, .val (.long v44), .second, .val (.long v57), .second, .val (.double v68), .second, .val (.long v75), .second, .unset, .unset, .unset, .unset, .unset, .unset] [(.int (0 : Int32))])) _
      refine XS.ifNo X8.here hx rfl (hb hby at_88) rfl ((if0 _ _).trans (teq rfl).2) ?_
      show Steps p.tables e below (T8.setTop (mkF m 91 #[.val (.long y1), .second, .val (.long y2), .second, .val (.long y3), .second, .val (.long y4), .second, .val (.long y5), .second, .val (.long v5), .second, .val (.long v13), .second, .val (.long v22), .second, .val (.long v34), .second, .val (.long v44), .second, .val (.long v57), .second, .val (.double v68), .second, .val (.long v75), .second, .unset, .unset, .unset, .unset, .unset, .unset] [])) _
      refine XS.iconst X8.here hx rfl (hb hby at_91) ?_
      show Steps p.tables e below (T8.setTop (mkF m 92 #[.val (.long y1), .second, .val (.long y2), .second, .val (.long y3), .second, .val (.long y4), .second, .val (.long y5), .second, .val (.long v5), .second, .val (.long v13), .second, .val (.long v22), .second, .val (.long v34), .second, .val (.long v44), .second, .val (.long v57), .second, .val (.double v68), .second, .val (.long v75), .second, .unset, .unset, .unset, .unset, .unset, .unset] [(.int (1 : Int32))])) _
      refine XS.goto X8.here hx rfl (pc0 := 92) (pc' := 96) rfl (hb hby at_92) (by decide) (by decide) ?_
      show Steps p.tables e below (T8.setTop (mkF m 96 #[.val (.long y1), .second, .val (.long y2), .second, .val (.long y3), .second, .val (.long y4), .second, .val (.long y5), .second, .val (.long v5), .second, .val (.long v13), .second, .val (.long v22), .second, .val (.long v34), .second, .val (.long v44), .second, .val (.long v57), .second, .val (.double v68), .second, .val (.long v75), .second, .unset, .unset, .unset, .unset, .unset, .unset] [(.int (1 : Int32))])) _
      exact retN X8 hx (t := .boolean) Bd.returns (by simp) (hb hby at_96) hr
    · show own_Q0 Z y1 y2 y3 y4 y5 h0 n0 _ T8.heap _
      rw [eh8]
      exact ⟨rfl, N8⟩
  · have hsp : 0 < (v13 + v5).toInt := by
      have : (v13 + v5).toInt ≠ 0 := fun z => hc81 (by rw [hv75]; exact Int64.toInt_inj.mp (by rw [z]; rfl))
      omega
    have R1s := R1 hsp
    have hq : v68 = FP.ddiv (FP.l2d ((2 : Int64) * v34)) (FP.l2d (v13 + v5)) := by rw [hv68]; exact own_f1e hsp (by omega)
    obtain ⟨v104, hv104⟩ : ∃ w : UInt64, w = (FP.ddiv (FP.l2d v57) (FP.l2d v44)) := ⟨_, rfl⟩
    have pre12 : ∀ t, Steps p.tables e below (T8.setTop (mkF m 106 #[.val (.long y1), .second, .val (.long y2), .second, .val (.long y3), .second, .val (.long y4), .second, .val (.long y5), .second, .val (.long v5), .second, .val (.long v13), .second, .val (.long v22), .second, .val (.long v34), .second, .val (.long v44), .second, .val (.long v57), .second, .val (.double v68), .second, .val (.long v75), .second, .val (.double v104), .second, .unset, .unset, .unset, .unset] [])) t → Steps p.tables e below (s₁.setTop (entryFrame m #[(.long y1), (.long y2), (.long y3), (.long y4), (.long y5)] maxLocals)) t := by
      intro t k
      rw [hv104] at k
      refine pre11 _ ?_
      show Steps p.tables e below (T8.setTop (mkF m 81 #[.val (.long y1), .second, .val (.long y2), .second, .val (.long y3), .second, .val (.long y4), .second, .val (.long y5), .second, .val (.long v5), .second, .val (.long v13), .second, .val (.long v22), .second, .val (.long v34), .second, .val (.long v44), .second, .val (.long v57), .second, .val (.double v68), .second, .val (.long v75), .second, .unset, .unset, .unset, .unset, .unset, .unset] [(.int (lcmpW v75 (0 : Int64)))])) _
      refine XS.ifYes X8.here hx rfl (pc0 := 81) (pc' := 97) rfl (hb hby at_81) rfl ((if0 _ _).trans (feq (fun z => hc81 ((lw_eq v75 (0 : Int64)).mp z))).2) (by decide) (by decide) ?_
      show Steps p.tables e below (T8.setTop (mkF m 97 #[.val (.long y1), .second, .val (.long y2), .second, .val (.long y3), .second, .val (.long y4), .second, .val (.long y5), .second, .val (.long v5), .second, .val (.long v13), .second, .val (.long v22), .second, .val (.long v34), .second, .val (.long v44), .second, .val (.long v57), .second, .val (.double v68), .second, .val (.long v75), .second, .unset, .unset, .unset, .unset, .unset, .unset] [])) _
      refine XS.lload X8.here hx rfl (hb hby at_97) rfl ?_
      show Steps p.tables e below (T8.setTop (mkF m 99 #[.val (.long y1), .second, .val (.long y2), .second, .val (.long y3), .second, .val (.long y4), .second, .val (.long y5), .second, .val (.long v5), .second, .val (.long v13), .second, .val (.long v22), .second, .val (.long v34), .second, .val (.long v44), .second, .val (.long v57), .second, .val (.double v68), .second, .val (.long v75), .second, .unset, .unset, .unset, .unset, .unset, .unset] [(.long v57)])) _
      refine XS.l2dS X8.here hx rfl (hb hby at_99) rfl rfl ?_
      show Steps p.tables e below (T8.setTop (mkF m 100 #[.val (.long y1), .second, .val (.long y2), .second, .val (.long y3), .second, .val (.long y4), .second, .val (.long y5), .second, .val (.long v5), .second, .val (.long v13), .second, .val (.long v22), .second, .val (.long v34), .second, .val (.long v44), .second, .val (.long v57), .second, .val (.double v68), .second, .val (.long v75), .second, .unset, .unset, .unset, .unset, .unset, .unset] [(.double (FP.l2d v57))])) _
      refine XS.lload X8.here hx rfl (hb hby at_100) rfl ?_
      show Steps p.tables e below (T8.setTop (mkF m 102 #[.val (.long y1), .second, .val (.long y2), .second, .val (.long y3), .second, .val (.long y4), .second, .val (.long y5), .second, .val (.long v5), .second, .val (.long v13), .second, .val (.long v22), .second, .val (.long v34), .second, .val (.long v44), .second, .val (.long v57), .second, .val (.double v68), .second, .val (.long v75), .second, .unset, .unset, .unset, .unset, .unset, .unset] [(.long v44), (.double (FP.l2d v57))])) _
      refine XS.l2dS X8.here hx rfl (hb hby at_102) rfl rfl ?_
      show Steps p.tables e below (T8.setTop (mkF m 103 #[.val (.long y1), .second, .val (.long y2), .second, .val (.long y3), .second, .val (.long y4), .second, .val (.long y5), .second, .val (.long v5), .second, .val (.long v13), .second, .val (.long v22), .second, .val (.long v34), .second, .val (.long v44), .second, .val (.long v57), .second, .val (.double v68), .second, .val (.long v75), .second, .unset, .unset, .unset, .unset, .unset, .unset] [(.double (FP.l2d v44)), (.double (FP.l2d v57))])) _
      refine XS.ddivS X8.here hx rfl (hb hby at_103) rfl (own_no (own_nn R2)) rfl ?_
      show Steps p.tables e below (T8.setTop (mkF m 104 #[.val (.long y1), .second, .val (.long y2), .second, .val (.long y3), .second, .val (.long y4), .second, .val (.long y5), .second, .val (.long v5), .second, .val (.long v13), .second, .val (.long v22), .second, .val (.long v34), .second, .val (.long v44), .second, .val (.long v57), .second, .val (.double v68), .second, .val (.long v75), .second, .unset, .unset, .unset, .unset, .unset, .unset] [(.double (FP.ddiv (FP.l2d v57) (FP.l2d v44)))])) _
      refine XS.dstore X8.here hx rfl (hb hby at_104) rfl (l' := #[.val (.long y1), .second, .val (.long y2), .second, .val (.long y3), .second, .val (.long y4), .second, .val (.long y5), .second, .val (.long v5), .second, .val (.long v13), .second, .val (.long v22), .second, .val (.long v34), .second, .val (.long v44), .second, .val (.long v57), .second, .val (.double v68), .second, .val (.long v75), .second, .val (.double (FP.ddiv (FP.l2d v57) (FP.l2d v44))), .second, .unset, .unset, .unset, .unset]) rfl ?_
      exact k
    obtain ⟨v115, hv115⟩ : ∃ w : Int64, w = (((2 : Int64) * v34) * v44) := ⟨_, rfl⟩
    have pre13 : ∀ t, Steps p.tables e below (T8.setTop (mkF m 117 #[.val (.long y1), .second, .val (.long y2), .second, .val (.long y3), .second, .val (.long y4), .second, .val (.long y5), .second, .val (.long v5), .second, .val (.long v13), .second, .val (.long v22), .second, .val (.long v34), .second, .val (.long v44), .second, .val (.long v57), .second, .val (.double v68), .second, .val (.long v75), .second, .val (.double v104), .second, .val (.long v115), .second, .unset, .unset] [])) t → Steps p.tables e below (s₁.setTop (entryFrame m #[(.long y1), (.long y2), (.long y3), (.long y4), (.long y5)] maxLocals)) t := by
      intro t k
      rw [hv115] at k
      refine pre12 _ ?_
      show Steps p.tables e below (T8.setTop (mkF m 106 #[.val (.long y1), .second, .val (.long y2), .second, .val (.long y3), .second, .val (.long y4), .second, .val (.long y5), .second, .val (.long v5), .second, .val (.long v13), .second, .val (.long v22), .second, .val (.long v34), .second, .val (.long v44), .second, .val (.long v57), .second, .val (.double v68), .second, .val (.long v75), .second, .val (.double v104), .second, .unset, .unset, .unset, .unset] [])) _
      refine X8.ldc2Long hx hown (mvT hZ (hw _ (List.mem_of_getElem? (i := 12) rfl))) (g := (mkF m 106 #[.val (.long y1), .second, .val (.long y2), .second, .val (.long y3), .second, .val (.long y4), .second, .val (.long y5), .second, .val (.long v5), .second, .val (.long v13), .second, .val (.long v22), .second, .val (.long v34), .second, .val (.long v44), .second, .val (.long v57), .second, .val (.double v68), .second, .val (.long v75), .second, .val (.double v104), .second, .unset, .unset, .unset, .unset] [])) rfl (hb hby at_106) _ ?_
      show Steps p.tables e below (T8.setTop (mkF m 109 #[.val (.long y1), .second, .val (.long y2), .second, .val (.long y3), .second, .val (.long y4), .second, .val (.long y5), .second, .val (.long v5), .second, .val (.long v13), .second, .val (.long v22), .second, .val (.long v34), .second, .val (.long v44), .second, .val (.long v57), .second, .val (.double v68), .second, .val (.long v75), .second, .val (.double v104), .second, .unset, .unset, .unset, .unset] [(.long (2 : Int64))])) _
      refine XS.lload X8.here hx rfl (hb hby at_109) rfl ?_
      show Steps p.tables e below (T8.setTop (mkF m 111 #[.val (.long y1), .second, .val (.long y2), .second, .val (.long y3), .second, .val (.long y4), .second, .val (.long y5), .second, .val (.long v5), .second, .val (.long v13), .second, .val (.long v22), .second, .val (.long v34), .second, .val (.long v44), .second, .val (.long v57), .second, .val (.double v68), .second, .val (.long v75), .second, .val (.double v104), .second, .unset, .unset, .unset, .unset] [(.long v34), (.long (2 : Int64))])) _
      refine XS.lmul X8.here hx rfl (hb hby at_111) rfl ?_
      show Steps p.tables e below (T8.setTop (mkF m 112 #[.val (.long y1), .second, .val (.long y2), .second, .val (.long y3), .second, .val (.long y4), .second, .val (.long y5), .second, .val (.long v5), .second, .val (.long v13), .second, .val (.long v22), .second, .val (.long v34), .second, .val (.long v44), .second, .val (.long v57), .second, .val (.double v68), .second, .val (.long v75), .second, .val (.double v104), .second, .unset, .unset, .unset, .unset] [(.long ((2 : Int64) * v34))])) _
      refine XS.lload X8.here hx rfl (hb hby at_112) rfl ?_
      show Steps p.tables e below (T8.setTop (mkF m 114 #[.val (.long y1), .second, .val (.long y2), .second, .val (.long y3), .second, .val (.long y4), .second, .val (.long y5), .second, .val (.long v5), .second, .val (.long v13), .second, .val (.long v22), .second, .val (.long v34), .second, .val (.long v44), .second, .val (.long v57), .second, .val (.double v68), .second, .val (.long v75), .second, .val (.double v104), .second, .unset, .unset, .unset, .unset] [(.long v44), (.long ((2 : Int64) * v34))])) _
      refine XS.lmul X8.here hx rfl (hb hby at_114) rfl ?_
      show Steps p.tables e below (T8.setTop (mkF m 115 #[.val (.long y1), .second, .val (.long y2), .second, .val (.long y3), .second, .val (.long y4), .second, .val (.long y5), .second, .val (.long v5), .second, .val (.long v13), .second, .val (.long v22), .second, .val (.long v34), .second, .val (.long v44), .second, .val (.long v57), .second, .val (.double v68), .second, .val (.long v75), .second, .val (.double v104), .second, .unset, .unset, .unset, .unset] [(.long (((2 : Int64) * v34) * v44))])) _
      refine XS.lstore X8.here hx rfl (hb hby at_115) rfl (l' := #[.val (.long y1), .second, .val (.long y2), .second, .val (.long y3), .second, .val (.long y4), .second, .val (.long y5), .second, .val (.long v5), .second, .val (.long v13), .second, .val (.long v22), .second, .val (.long v34), .second, .val (.long v44), .second, .val (.long v57), .second, .val (.double v68), .second, .val (.long v75), .second, .val (.double v104), .second, .val (.long (((2 : Int64) * v34) * v44)), .second, .unset, .unset]) rfl ?_
      exact k
    obtain ⟨v122, hv122⟩ : ∃ w : Int64, w = (v57 * v75) := ⟨_, rfl⟩
    have pre14 : ∀ t, Steps p.tables e below (T8.setTop (mkF m 124 #[.val (.long y1), .second, .val (.long y2), .second, .val (.long y3), .second, .val (.long y4), .second, .val (.long y5), .second, .val (.long v5), .second, .val (.long v13), .second, .val (.long v22), .second, .val (.long v34), .second, .val (.long v44), .second, .val (.long v57), .second, .val (.double v68), .second, .val (.long v75), .second, .val (.double v104), .second, .val (.long v115), .second, .val (.long v122), .second] [])) t → Steps p.tables e below (s₁.setTop (entryFrame m #[(.long y1), (.long y2), (.long y3), (.long y4), (.long y5)] maxLocals)) t := by
      intro t k
      rw [hv122] at k
      refine pre13 _ ?_
      show Steps p.tables e below (T8.setTop (mkF m 117 #[.val (.long y1), .second, .val (.long y2), .second, .val (.long y3), .second, .val (.long y4), .second, .val (.long y5), .second, .val (.long v5), .second, .val (.long v13), .second, .val (.long v22), .second, .val (.long v34), .second, .val (.long v44), .second, .val (.long v57), .second, .val (.double v68), .second, .val (.long v75), .second, .val (.double v104), .second, .val (.long v115), .second, .unset, .unset] [])) _
      refine XS.lload X8.here hx rfl (hb hby at_117) rfl ?_
      show Steps p.tables e below (T8.setTop (mkF m 119 #[.val (.long y1), .second, .val (.long y2), .second, .val (.long y3), .second, .val (.long y4), .second, .val (.long y5), .second, .val (.long v5), .second, .val (.long v13), .second, .val (.long v22), .second, .val (.long v34), .second, .val (.long v44), .second, .val (.long v57), .second, .val (.double v68), .second, .val (.long v75), .second, .val (.double v104), .second, .val (.long v115), .second, .unset, .unset] [(.long v57)])) _
      refine XS.lload X8.here hx rfl (hb hby at_119) rfl ?_
      show Steps p.tables e below (T8.setTop (mkF m 121 #[.val (.long y1), .second, .val (.long y2), .second, .val (.long y3), .second, .val (.long y4), .second, .val (.long y5), .second, .val (.long v5), .second, .val (.long v13), .second, .val (.long v22), .second, .val (.long v34), .second, .val (.long v44), .second, .val (.long v57), .second, .val (.double v68), .second, .val (.long v75), .second, .val (.double v104), .second, .val (.long v115), .second, .unset, .unset] [(.long v75), (.long v57)])) _
      refine XS.lmul X8.here hx rfl (hb hby at_121) rfl ?_
      show Steps p.tables e below (T8.setTop (mkF m 122 #[.val (.long y1), .second, .val (.long y2), .second, .val (.long y3), .second, .val (.long y4), .second, .val (.long y5), .second, .val (.long v5), .second, .val (.long v13), .second, .val (.long v22), .second, .val (.long v34), .second, .val (.long v44), .second, .val (.long v57), .second, .val (.double v68), .second, .val (.long v75), .second, .val (.double v104), .second, .val (.long v115), .second, .unset, .unset] [(.long (v57 * v75))])) _
      refine XS.lstore X8.here hx rfl (hb hby at_122) rfl (l' := #[.val (.long y1), .second, .val (.long y2), .second, .val (.long y3), .second, .val (.long y4), .second, .val (.long y5), .second, .val (.long v5), .second, .val (.long v13), .second, .val (.long v22), .second, .val (.long v34), .second, .val (.long v44), .second, .val (.long v57), .second, .val (.double v68), .second, .val (.long v75), .second, .val (.double v104), .second, .val (.long v115), .second, .val (.long (v57 * v75)), .second]) rfl ?_
      exact k
    have b1 : ((2 : Int64) * v34).toInt * v44.toInt ≤ 2097152 * 2097152 := Int.mul_le_mul (by omega) (by omega) (by omega) (by omega)
    have b2 : 0 ≤ ((2 : Int64) * v34).toInt * v44.toInt := Int.mul_nonneg (by omega) (by omega)
    have b3 : v57.toInt * (v13 + v5).toInt ≤ 2097152 * 2097152 := Int.mul_le_mul (by omega) (by omega) (by omega) (by omega)
    have b4 : 0 ≤ v57.toInt * (v13 + v5).toInt := Int.mul_nonneg (by omega) (by omega)
    have hL : v115.toInt = ((2 : Int64) * v34).toInt * v44.toInt := by rw [hv115]; exact own_lmul rfl rfl (by omega) (by omega)
    have hRr : v122.toInt = v57.toInt * (v13 + v5).toInt := by rw [hv122, hv75]; exact own_lmul rfl rfl (by omega) (by omega)
    have pre15 : ∀ t, Steps p.tables e below (T8.setTop (mkF m 129 #[.val (.long y1), .second, .val (.long y2), .second, .val (.long y3), .second, .val (.long y4), .second, .val (.long y5), .second, .val (.long v5), .second, .val (.long v13), .second, .val (.long v22), .second, .val (.long v34), .second, .val (.long v44), .second, .val (.long v57), .second, .val (.double v68), .second, .val (.long v75), .second, .val (.double v104), .second, .val (.long v115), .second, .val (.long v122), .second] [(.int (lcmpW v115 v122))])) t → Steps p.tables e below (s₁.setTop (entryFrame m #[(.long y1), (.long y2), (.long y3), (.long y4), (.long y5)] maxLocals)) t := by
      intro t k
      refine pre14 _ ?_
      show Steps p.tables e below (T8.setTop (mkF m 124 #[.val (.long y1), .second, .val (.long y2), .second, .val (.long y3), .second, .val (.long y4), .second, .val (.long y5), .second, .val (.long v5), .second, .val (.long v13), .second, .val (.long v22), .second, .val (.long v34), .second, .val (.long v44), .second, .val (.long v57), .second, .val (.double v68), .second, .val (.long v75), .second, .val (.double v104), .second, .val (.long v115), .second, .val (.long v122), .second] [])) _
      refine XS.lload X8.here hx rfl (hb hby at_124) rfl ?_
      show Steps p.tables e below (T8.setTop (mkF m 126 #[.val (.long y1), .second, .val (.long y2), .second, .val (.long y3), .second, .val (.long y4), .second, .val (.long y5), .second, .val (.long v5), .second, .val (.long v13), .second, .val (.long v22), .second, .val (.long v34), .second, .val (.long v44), .second, .val (.long v57), .second, .val (.double v68), .second, .val (.long v75), .second, .val (.double v104), .second, .val (.long v115), .second, .val (.long v122), .second] [(.long v115)])) _
      refine XS.lload X8.here hx rfl (hb hby at_126) rfl ?_
      show Steps p.tables e below (T8.setTop (mkF m 128 #[.val (.long y1), .second, .val (.long y2), .second, .val (.long y3), .second, .val (.long y4), .second, .val (.long y5), .second, .val (.long v5), .second, .val (.long v13), .second, .val (.long v22), .second, .val (.long v34), .second, .val (.long v44), .second, .val (.long v57), .second, .val (.double v68), .second, .val (.long v75), .second, .val (.double v104), .second, .val (.long v115), .second, .val (.long v122), .second] [(.long v122), (.long v115)])) _
      refine XS.lcmp X8.here hx rfl (hb hby at_128) rfl ?_
      exact k
    by_cases hc129 : v115 < v122
    · have hq136 : cmpValue (FP.dcmp v68 v104) .g = (-1 : Int32) := by
        rw [Int64.lt_iff_toInt_lt, hL, hRr] at hc129
        rw [hq, hv104, own_dlt R1s R2 hc129]; rfl
      have hd16 : (-1 : Int32) < (0 : Int32) := (by decide)
      obtain ⟨fs, hr, hrun, hended, hW, hsame⟩ := X8.leave (v := some (.int (1 : Int32))) (fun h => by rw [Bd.returns] at h; cases h)
      refine ⟨_, _, pre15 _ ?_, hrun, hended, _, _, rfl, ?_, ⟨_, rfl⟩, hW, hsame.mono (by decide) (by decide)⟩
      · show Steps p.tables e below (T8.setTop (mkF m 129 #[.val (.long y1), .second, .val (.long y2), .second, .val (.long y3), .second, .val (.long y4), .second, .val (.long y5), .second, .val (.long v5), .second, .val (.long v13), .second, .val (.long v22), .second, .val (.long v34), .second, .val (.long v44), .second, .val (.long v57), .second, .val (.double v68), .second, .val (.long v75), .second, .val (.double v104), .second, .val (.long v115), .second, .val (.long v122), .second] [(.int (lcmpW v115 v122))])) _
        refine XS.ifNo X8.here hx rfl (hb hby at_129) rfl ((if0 _ _).trans (tlt ((lw_lt v115 v122).mpr hc129)).2.1) ?_
        show Steps p.tables e below (T8.setTop (mkF m 132 #[.val (.long y1), .second, .val (.long y2), .second, .val (.long y3), .second, .val (.long y4), .second, .val (.long y5), .second, .val (.long v5), .second, .val (.long v13), .second, .val (.long v22), .second, .val (.long v34), .second, .val (.long v44), .second, .val (.long v57), .second, .val (.double v68), .second, .val (.long v75), .second, .val (.double v104), .second, .val (.long v115), .second, .val (.long v122), .second] [])) _
        refine XS.dload X8.here hx rfl (hb hby at_132) rfl ?_
        show Steps p.tables e below (T8.setTop (mkF m 134 #[.val (.long y1), .second, .val (.long y2), .second, .val (.long y3), .second, .val (.long y4), .second, .val (.long y5), .second, .val (.long v5), .second, .val (.long v13), .second, .val (.long v22), .second, .val (.long v34), .second, .val (.long v44), .second, .val (.long v57), .second, .val (.double v68), .second, .val (.long v75), .second, .val (.double v104), .second, .val (.long v115), .second, .val (.long v122), .second] [(.double v68)])) _
        refine XS.dload X8.here hx rfl (hb hby at_134) rfl ?_
        show Steps p.tables e below (T8.setTop (mkF m 136 #[.val (.long y1), .second, .val (.long y2), .second, .val (.long y3), .second, .val (.long y4), .second, .val (.long y5), .second, .val (.long v5), .second, .val (.long v13), .second, .val (.long v22), .second, .val (.long v34), .second, .val (.long v44), .second, .val (.long v57), .second, .val (.double v68), .second, .val (.long v75), .second, .val (.double v104), .second, .val (.long v115), .second, .val (.long v122), .second] [(.double v104), (.double v68)])) _
        refine XS.dcmpS X8.here hx rfl (hb hby at_136) rfl hq136 ?_
        show Steps p.tables e below (T8.setTop (mkF m 137 #[.val (.long y1), .second, .val (.long y2), .second, .val (.long y3), .second, .val (.long y4), .second, .val (.long y5), .second, .val (.long v5), .second, .val (.long v13), .second, .val (.long v22), .second, .val (.long v34), .second, .val (.long v44), .second, .val (.long v57), .second, .val (.double v68), .second, .val (.long v75), .second, .val (.double v104), .second, .val (.long v115), .second, .val (.long v122), .second] [(.int (-1 : Int32))])) _
        refine XS.ifNo X8.here hx rfl (hb hby at_137) rfl ((if0 _ _).trans (tlt hd16).2.1) ?_
        show Steps p.tables e below (T8.setTop (mkF m 140 #[.val (.long y1), .second, .val (.long y2), .second, .val (.long y3), .second, .val (.long y4), .second, .val (.long y5), .second, .val (.long v5), .second, .val (.long v13), .second, .val (.long v22), .second, .val (.long v34), .second, .val (.long v44), .second, .val (.long v57), .second, .val (.double v68), .second, .val (.long v75), .second, .val (.double v104), .second, .val (.long v115), .second, .val (.long v122), .second] [])) _
        refine XS.iconst X8.here hx rfl (hb hby at_140) ?_
        show Steps p.tables e below (T8.setTop (mkF m 141 #[.val (.long y1), .second, .val (.long y2), .second, .val (.long y3), .second, .val (.long y4), .second, .val (.long y5), .second, .val (.long v5), .second, .val (.long v13), .second, .val (.long v22), .second, .val (.long v34), .second, .val (.long v44), .second, .val (.long v57), .second, .val (.double v68), .second, .val (.long v75), .second, .val (.double v104), .second, .val (.long v115), .second, .val (.long v122), .second] [(.int (1 : Int32))])) _
        refine XS.goto X8.here hx rfl (pc0 := 141) (pc' := 145) rfl (hb hby at_141) (by decide) (by decide) ?_
        show Steps p.tables e below (T8.setTop (mkF m 145 #[.val (.long y1), .second, .val (.long y2), .second, .val (.long y3), .second, .val (.long y4), .second, .val (.long y5), .second, .val (.long v5), .second, .val (.long v13), .second, .val (.long v22), .second, .val (.long v34), .second, .val (.long v44), .second, .val (.long v57), .second, .val (.double v68), .second, .val (.long v75), .second, .val (.double v104), .second, .val (.long v115), .second, .val (.long v122), .second] [(.int (1 : Int32))])) _
        exact retN X8 hx (t := .boolean) Bd.returns (by simp) (hb hby at_145) hr
      · show own_Q0 Z y1 y2 y3 y4 y5 h0 n0 _ T8.heap _
        rw [eh8]
        exact ⟨rfl, N8⟩
    · have pre17 : ∀ t, Steps p.tables e below (T8.setTop (mkF m 151 #[.val (.long y1), .second, .val (.long y2), .second, .val (.long y3), .second, .val (.long y4), .second, .val (.long y5), .second, .val (.long v5), .second, .val (.long v13), .second, .val (.long v22), .second, .val (.long v34), .second, .val (.long v44), .second, .val (.long v57), .second, .val (.double v68), .second, .val (.long v75), .second, .val (.double v104), .second, .val (.long v115), .second, .val (.long v122), .second] [(.int (lcmpW v115 v122))])) t → Steps p.tables e below (s₁.setTop (entryFrame m #[(.long y1), (.long y2), (.long y3), (.long y4), (.long y5)] maxLocals)) t := by
        intro t k
        refine pre15 _ ?_
        show Steps p.tables e below (T8.setTop (mkF m 129 #[.val (.long y1), .second, .val (.long y2), .second, .val (.long y3), .second, .val (.long y4), .second, .val (.long y5), .second, .val (.long v5), .second, .val (.long v13), .second, .val (.long v22), .second, .val (.long v34), .second, .val (.long v44), .second, .val (.long v57), .second, .val (.double v68), .second, .val (.long v75), .second, .val (.double v104), .second, .val (.long v115), .second, .val (.long v122), .second] [(.int (lcmpW v115 v122))])) _
        refine XS.ifYes X8.here hx rfl (pc0 := 129) (pc' := 146) rfl (hb hby at_129) rfl ((if0 _ _).trans (flt (fun z => hc129 ((lw_lt v115 v122).mp z))).2.1) (by decide) (by decide) ?_
        show Steps p.tables e below (T8.setTop (mkF m 146 #[.val (.long y1), .second, .val (.long y2), .second, .val (.long y3), .second, .val (.long y4), .second, .val (.long y5), .second, .val (.long v5), .second, .val (.long v13), .second, .val (.long v22), .second, .val (.long v34), .second, .val (.long v44), .second, .val (.long v57), .second, .val (.double v68), .second, .val (.long v75), .second, .val (.double v104), .second, .val (.long v115), .second, .val (.long v122), .second] [])) _
        refine XS.lload X8.here hx rfl (hb hby at_146) rfl ?_
        show Steps p.tables e below (T8.setTop (mkF m 148 #[.val (.long y1), .second, .val (.long y2), .second, .val (.long y3), .second, .val (.long y4), .second, .val (.long y5), .second, .val (.long v5), .second, .val (.long v13), .second, .val (.long v22), .second, .val (.long v34), .second, .val (.long v44), .second, .val (.long v57), .second, .val (.double v68), .second, .val (.long v75), .second, .val (.double v104), .second, .val (.long v115), .second, .val (.long v122), .second] [(.long v115)])) _
        refine XS.lload X8.here hx rfl (hb hby at_148) rfl ?_
        show Steps p.tables e below (T8.setTop (mkF m 150 #[.val (.long y1), .second, .val (.long y2), .second, .val (.long y3), .second, .val (.long y4), .second, .val (.long y5), .second, .val (.long v5), .second, .val (.long v13), .second, .val (.long v22), .second, .val (.long v34), .second, .val (.long v44), .second, .val (.long v57), .second, .val (.double v68), .second, .val (.long v75), .second, .val (.double v104), .second, .val (.long v115), .second, .val (.long v122), .second] [(.long v122), (.long v115)])) _
        refine XS.lcmp X8.here hx rfl (hb hby at_150) rfl ?_
        exact k
      by_cases hc151 : v122 < v115
      · have hq158 : cmpValue (FP.dcmp v104 v68) .g = (-1 : Int32) := by
          rw [Int64.lt_iff_toInt_lt, hL, hRr] at hc151
          rw [hq, hv104, own_dlt R2 R1s hc151]; rfl
        have hd18 : (-1 : Int32) < (0 : Int32) := (by decide)
        obtain ⟨fs, hr, hrun, hended, hW, hsame⟩ := X8.leave (v := some (.int (1 : Int32))) (fun h => by rw [Bd.returns] at h; cases h)
        refine ⟨_, _, pre17 _ ?_, hrun, hended, _, _, rfl, ?_, ⟨_, rfl⟩, hW, hsame.mono (by decide) (by decide)⟩
        · show Steps p.tables e below (T8.setTop (mkF m 151 #[.val (.long y1), .second, .val (.long y2), .second, .val (.long y3), .second, .val (.long y4), .second, .val (.long y5), .second, .val (.long v5), .second, .val (.long v13), .second, .val (.long v22), .second, .val (.long v34), .second, .val (.long v44), .second, .val (.long v57), .second, .val (.double v68), .second, .val (.long v75), .second, .val (.double v104), .second, .val (.long v115), .second, .val (.long v122), .second] [(.int (lcmpW v115 v122))])) _
          refine XS.ifNo X8.here hx rfl (hb hby at_151) rfl ((if0 _ _).trans (tlt ((lw_gt v115 v122).mpr hc151)).2.2.2) ?_
          show Steps p.tables e below (T8.setTop (mkF m 154 #[.val (.long y1), .second, .val (.long y2), .second, .val (.long y3), .second, .val (.long y4), .second, .val (.long y5), .second, .val (.long v5), .second, .val (.long v13), .second, .val (.long v22), .second, .val (.long v34), .second, .val (.long v44), .second, .val (.long v57), .second, .val (.double v68), .second, .val (.long v75), .second, .val (.double v104), .second, .val (.long v115), .second, .val (.long v122), .second] [])) _
          refine XS.dload X8.here hx rfl (hb hby at_154) rfl ?_
          show Steps p.tables e below (T8.setTop (mkF m 156 #[.val (.long y1), .second, .val (.long y2), .second, .val (.long y3), .second, .val (.long y4), .second, .val (.long y5), .second, .val (.long v5), .second, .val (.long v13), .second, .val (.long v22), .second, .val (.long v34), .second, .val (.long v44), .second, .val (.long v57), .second, .val (.double v68), .second, .val (.long v75), .second, .val (.double v104), .second, .val (.long v115), .second, .val (.long v122), .second] [(.double v104)])) _
          refine XS.dload X8.here hx rfl (hb hby at_156) rfl ?_
          show Steps p.tables e below (T8.setTop (mkF m 158 #[.val (.long y1), .second, .val (.long y2), .second, .val (.long y3), .second, .val (.long y4), .second, .val (.long y5), .second, .val (.long v5), .second, .val (.long v13), .second, .val (.long v22), .second, .val (.long v34), .second, .val (.long v44), .second, .val (.long v57), .second, .val (.double v68), .second, .val (.long v75), .second, .val (.double v104), .second, .val (.long v115), .second, .val (.long v122), .second] [(.double v68), (.double v104)])) _
          refine XS.dcmpS X8.here hx rfl (hb hby at_158) rfl hq158 ?_
          show Steps p.tables e below (T8.setTop (mkF m 159 #[.val (.long y1), .second, .val (.long y2), .second, .val (.long y3), .second, .val (.long y4), .second, .val (.long y5), .second, .val (.long v5), .second, .val (.long v13), .second, .val (.long v22), .second, .val (.long v34), .second, .val (.long v44), .second, .val (.long v57), .second, .val (.double v68), .second, .val (.long v75), .second, .val (.double v104), .second, .val (.long v115), .second, .val (.long v122), .second] [(.int (-1 : Int32))])) _
          refine XS.ifNo X8.here hx rfl (hb hby at_159) rfl ((if0 _ _).trans (tlt hd18).2.1) ?_
          show Steps p.tables e below (T8.setTop (mkF m 162 #[.val (.long y1), .second, .val (.long y2), .second, .val (.long y3), .second, .val (.long y4), .second, .val (.long y5), .second, .val (.long v5), .second, .val (.long v13), .second, .val (.long v22), .second, .val (.long v34), .second, .val (.long v44), .second, .val (.long v57), .second, .val (.double v68), .second, .val (.long v75), .second, .val (.double v104), .second, .val (.long v115), .second, .val (.long v122), .second] [])) _
          refine XS.iconst X8.here hx rfl (hb hby at_162) ?_
          show Steps p.tables e below (T8.setTop (mkF m 163 #[.val (.long y1), .second, .val (.long y2), .second, .val (.long y3), .second, .val (.long y4), .second, .val (.long y5), .second, .val (.long v5), .second, .val (.long v13), .second, .val (.long v22), .second, .val (.long v34), .second, .val (.long v44), .second, .val (.long v57), .second, .val (.double v68), .second, .val (.long v75), .second, .val (.double v104), .second, .val (.long v115), .second, .val (.long v122), .second] [(.int (1 : Int32))])) _
          refine XS.goto X8.here hx rfl (pc0 := 163) (pc' := 167) rfl (hb hby at_163) (by decide) (by decide) ?_
          show Steps p.tables e below (T8.setTop (mkF m 167 #[.val (.long y1), .second, .val (.long y2), .second, .val (.long y3), .second, .val (.long y4), .second, .val (.long y5), .second, .val (.long v5), .second, .val (.long v13), .second, .val (.long v22), .second, .val (.long v34), .second, .val (.long v44), .second, .val (.long v57), .second, .val (.double v68), .second, .val (.long v75), .second, .val (.double v104), .second, .val (.long v115), .second, .val (.long v122), .second] [(.int (1 : Int32))])) _
          exact retN X8 hx (t := .boolean) Bd.returns (by simp) (hb hby at_167) hr
        · show own_Q0 Z y1 y2 y3 y4 y5 h0 n0 _ T8.heap _
          rw [eh8]
          exact ⟨rfl, N8⟩
      · have hq172 : cmpValue (FP.dcmp v68 v104) .l = (0 : Int32) := by
          rw [Int64.lt_iff_toInt_lt, hL, hRr] at hc129 hc151
          rw [hq, hv104, own_deq R1s R2 (by omega)]; rfl
        obtain ⟨fs, hr, hrun, hended, hW, hsame⟩ := X8.leave (v := some (.int (1 : Int32))) (fun h => by rw [Bd.returns] at h; cases h)
        refine ⟨_, _, pre17 _ ?_, hrun, hended, _, _, rfl, ?_, ⟨_, rfl⟩, hW, hsame.mono (by decide) (by decide)⟩
        · show Steps p.tables e below (T8.setTop (mkF m 151 #[.val (.long y1), .second, .val (.long y2), .second, .val (.long y3), .second, .val (.long y4), .second, .val (.long y5), .second, .val (.long v5), .second, .val (.long v13), .second, .val (.long v22), .second, .val (.long v34), .second, .val (.long v44), .second, .val (.long v57), .second, .val (.double v68), .second, .val (.long v75), .second, .val (.double v104), .second, .val (.long v115), .second, .val (.long v122), .second] [(.int (lcmpW v115 v122))])) _
          refine XS.ifYes X8.here hx rfl (pc0 := 151) (pc' := 168) rfl (hb hby at_151) rfl ((if0 _ _).trans (flt (fun z => hc151 ((lw_gt v115 v122).mp z))).2.2.2) (by decide) (by decide) ?_
          show Steps p.tables e below (T8.setTop (mkF m 168 #[.val (.long y1), .second, .val (.long y2), .second, .val (.long y3), .second, .val (.long y4), .second, .val (.long y5), .second, .val (.long v5), .second, .val (.long v13), .second, .val (.long v22), .second, .val (.long v34), .second, .val (.long v44), .second, .val (.long v57), .second, .val (.double v68), .second, .val (.long v75), .second, .val (.double v104), .second, .val (.long v115), .second, .val (.long v122), .second] [])) _
          refine XS.dload X8.here hx rfl (hb hby at_168) rfl ?_
          show Steps p.tables e below (T8.setTop (mkF m 170 #[.val (.long y1), .second, .val (.long y2), .second, .val (.long y3), .second, .val (.long y4), .second, .val (.long y5), .second, .val (.long v5), .second, .val (.long v13), .second, .val (.long v22), .second, .val (.long v34), .second, .val (.long v44), .second, .val (.long v57), .second, .val (.double v68), .second, .val (.long v75), .second, .val (.double v104), .second, .val (.long v115), .second, .val (.long v122), .second] [(.double v68)])) _
          refine XS.dload X8.here hx rfl (hb hby at_170) rfl ?_
          show Steps p.tables e below (T8.setTop (mkF m 172 #[.val (.long y1), .second, .val (.long y2), .second, .val (.long y3), .second, .val (.long y4), .second, .val (.long y5), .second, .val (.long v5), .second, .val (.long v13), .second, .val (.long v22), .second, .val (.long v34), .second, .val (.long v44), .second, .val (.long v57), .second, .val (.double v68), .second, .val (.long v75), .second, .val (.double v104), .second, .val (.long v115), .second, .val (.long v122), .second] [(.double v104), (.double v68)])) _
          refine XS.dcmpS X8.here hx rfl (hb hby at_172) rfl hq172 ?_
          show Steps p.tables e below (T8.setTop (mkF m 173 #[.val (.long y1), .second, .val (.long y2), .second, .val (.long y3), .second, .val (.long y4), .second, .val (.long y5), .second, .val (.long v5), .second, .val (.long v13), .second, .val (.long v22), .second, .val (.long v34), .second, .val (.long v44), .second, .val (.long v57), .second, .val (.double v68), .second, .val (.long v75), .second, .val (.double v104), .second, .val (.long v115), .second, .val (.long v122), .second] [(.int (0 : Int32))])) _
          refine XS.ifNo X8.here hx rfl (hb hby at_173) rfl ((if0 _ _).trans (teq rfl).2) ?_
          show Steps p.tables e below (T8.setTop (mkF m 176 #[.val (.long y1), .second, .val (.long y2), .second, .val (.long y3), .second, .val (.long y4), .second, .val (.long y5), .second, .val (.long v5), .second, .val (.long v13), .second, .val (.long v22), .second, .val (.long v34), .second, .val (.long v44), .second, .val (.long v57), .second, .val (.double v68), .second, .val (.long v75), .second, .val (.double v104), .second, .val (.long v115), .second, .val (.long v122), .second] [])) _
          refine XS.iconst X8.here hx rfl (hb hby at_176) ?_
          show Steps p.tables e below (T8.setTop (mkF m 177 #[.val (.long y1), .second, .val (.long y2), .second, .val (.long y3), .second, .val (.long y4), .second, .val (.long y5), .second, .val (.long v5), .second, .val (.long v13), .second, .val (.long v22), .second, .val (.long v34), .second, .val (.long v44), .second, .val (.long v57), .second, .val (.double v68), .second, .val (.long v75), .second, .val (.double v104), .second, .val (.long v115), .second, .val (.long v122), .second] [(.int (1 : Int32))])) _
          refine XS.goto X8.here hx rfl (pc0 := 177) (pc' := 181) rfl (hb hby at_177) (by decide) (by decide) ?_
          show Steps p.tables e below (T8.setTop (mkF m 181 #[.val (.long y1), .second, .val (.long y2), .second, .val (.long y3), .second, .val (.long y4), .second, .val (.long y5), .second, .val (.long v5), .second, .val (.long v13), .second, .val (.long v22), .second, .val (.long v34), .second, .val (.long v44), .second, .val (.long v57), .second, .val (.double v68), .second, .val (.long v75), .second, .val (.double v104), .second, .val (.long v115), .second, .val (.long v122), .second] [(.int (1 : Int32))])) _
          exact retN X8 hx (t := .boolean) Bd.returns (by simp) (hb hby at_181) hr
        · show own_Q0 Z y1 y2 y3 y4 y5 h0 n0 _ T8.heap _
          rw [eh8]
          exact ⟨rfl, N8⟩
set_option maxRecDepth 65536 in
set_option maxHeartbeats 40000000 in
theorem own_comes_1 {Post : Tables → Env → Array Value → State → Outcome → State → Prop} (hpost : ∀ tb e args s v u, (limb_1_1.after args s (.returned v) u = true ∧ limb_1_2.after args s (.returned v) u = true ∧ True) → FrameEnd s (.returned v) u (Jvm.fieldLocs frame_1_writes args s ++ Jvm.arrayLocs frame_1_arrays args s ++ Jvm.staticLocs frame_1_statics s) 0 0 → Post tb e args s (.returned v) u) :
    ArmFor flags0 classFile x code maxLocals ret World_1 tables_1 room_1 Calls_1 rest_1 Pre_1 Post := by
  intro l hfl _ _ p e ha hc hk s m args below hf hA hF happ hP
  obtain ⟨hcalls, hrest, hpre⟩ := hP
  obtain ⟨-, -, -, hnamed, -, -, -, hat⟩ := (Spec.applies_iff hf).mp happ
  obtain ⟨hg, hn⟩ := and_e (Cond.before_iff.mp (show (Jvm.Cond.and given_1 narrow_1).before args s = true from hpre))
  obtain ⟨gg1, gg2⟩ := and_e hg
  obtain ⟨gg3, gg4⟩ := and_e gg2
  obtain ⟨gg5, gg6⟩ := and_e gg4
  obtain ⟨gg7, gg8⟩ := and_e gg6
  obtain ⟨gg9, gg10⟩ := and_e gg8
  obtain ⟨w0, w1, w2, w3, w4, rfl⟩ : ∃ w0 w1 w2 w3 w4 : Value, args = #[w0, w1, w2, w3, w4] := by
    have hs : args.size = 5 := by simpa [Cond.value, given_1] using gg1
    obtain ⟨L⟩ := args
    match L, hs with
    | [w0, w1, w2, w3, w4], _ => exact ⟨w0, w1, w2, w3, w4, rfl⟩
  have hw := fun d (hd : d ∈ tables_1) => atoms_spec (ws := Jvm.Cond.code x code maxLocals ret :: tables_1) hat d (List.mem_cons_of_mem _ hd)
  have hfit : Fit s := fun {y c} hc i hi => by
    obtain ⟨ha, rfl⟩ := Array.getElem?_eq_some_iff.mp hc
    have q := List.all_eq_true.mp ((Array.all_eq_true_iff_forall_mem.mp hF) _ (Array.getElem_mem ha)) i (List.mem_range.mpr hi)
    simpa [Array.getElem?_eq_getElem hi] using q
  obtain ⟨i0, ei0⟩ := isL_v gg3
  obtain rfl : w0 = (.long i0) := Option.some.inj ei0
  obtain ⟨i1, ei1⟩ := isL_v gg5
  obtain rfl : w1 = (.long i1) := Option.some.inj ei1
  obtain ⟨i2, ei2⟩ := isL_v gg7
  obtain rfl : w2 = (.long i2) := Option.some.inj ei2
  obtain ⟨i3, ei3⟩ := isL_v gg9
  obtain rfl : w3 = (.long i3) := Option.some.inj ei3
  obtain ⟨i4, ei4⟩ := isL_v gg10
  obtain rfl : w4 = (.long i4) := Option.some.inj ei4
  obtain ⟨n, o, h1, h2, h3, _, L, rfl, ⟨rfl, N⟩, hq⟩ := own_rm0 l s _ hw tables_1 i0 i1 i2 i3 i4  s.heap s.heap.size (Nat.le_refl _)  p e ha hc hk s m _ below hf ((Spec.applies_iff_loose hf).mp happ).1 ⟨rfl, State.Warmed39.refl s, rfl⟩ trivial
  refine ⟨n, _, h1, h2, h3, hpost _ _ _ _ _ _ ⟨Cond.after_iff.mpr rfl, Cond.after_iff.mpr (eq_i res_at (Term.int_eval (1)) rfl), trivial⟩ ⟨hq.1, hq.2.1, (hq.2.2.sift fun y hy => Or.inr (N y hy)).mono (by decide) (by decide)⟩⟩
theorem main_1_1 : Claimed_1_1 := own_comes_1 fun _ _ _ _ _ _ h hF => ⟨h.1, hF⟩
theorem main_1_2 : Claimed_1_2 := own_comes_1 fun _ _ _ _ _ _ h hF => ⟨h.2.1, hF⟩
end Jvm.Pilot.@@N@@
namespace Jvm.Pilot.@@N@@
open Jvm Jvm.ClassFile Sem Op Lib Jvm.Free Jvm.Stand Jvm.Pilot.@@N@@.Jvm.D
/-! MADE BY PROGRAM (witnessworld.py) out of the Statement's table words and the real class files: 10 classes; the members and pool entries that the words name. The judged class is class 1, her method 1. -/
namespace start1
open Jvm.ClassFile
def u (s : String) : CpInfo := .utf8 (stringToUtf16 s)
/-- a pool by its gaps: so many unusable entries, then the entry; so many at the end -/
def gap : Nat → List CpInfo → List CpInfo
  | 0, r => r
  | n + 1, r => .unusable :: gap n r
def poolList (es : List (Nat × CpInfo)) (last : Nat) : List CpInfo := es.foldr (fun e r => gap e.1 (e.2 :: r)) (gap last [])
def pool (es : List (Nat × CpInfo)) (last : Nat) : Array CpInfo := ⟨poolList es last⟩
def fileOf (pool : Array CpInfo) (this : Nat) (attrs : Array Attribute := #[]) (ms : Array MethodInfo := #[]) (fl : Nat := 33) (sup : Nat := 0) (ifs : Array Nat := #[]) (fds : Array FieldInfo := #[]) : ClassFile where
  minorVersion := 0
  majorVersion := 65
  constantPool := pool
  accessFlags := fl
  thisClass := this
  superClass := sup
  interfaces := ifs
  fields := fds
  methods := ms
  attributes := attrs
def plain (name : String) (sup : Option ClassId) : Class where
  name := name
  kind := .ordinary
  loader := none
  accessFlags := 33
  super := sup
  interfaces := #[]
  cf := none
  fields := #[]
  methods := #[]
  instanceTypes := #[]
  staticTypes := #[]
  resolved := #[]
  callSites := []
  init := .initialized
  statics := none
  mirror := none

def pool0 : Array CpInfo := pool [(5, u "<init>"), (0, u "()V"), (1, .class_ 10), (1, u "java/lang/Object")] 113

def k0m0 : Method := { name := "<init>", desc := "()V", sig := { parameters := [], returnType := none }, accessFlags := 1, code := none }
/-- java/lang/Object -/
def k0 : Class := { plain "java/lang/Object" none with
  accessFlags := 33
  interfaces := #[]
  cf := some (fileOf pool0 8 #[] #[{ accessFlags := 1, nameIndex := 5, descriptorIndex := 6, attributes := #[] }] 33 0 #[] #[])
  fields := #[]
  methods := #[k0m0]
  instanceTypes := #[]
  staticTypes := #[]
  resolved := Array.replicate 124 none
  statics := none }

def pool1 : Array CpInfo := pool [(2, .class_ 4), (1, u "java/lang/Object"), (0, u "<init>"), (0, u "()V"), (0, .long 1048575), (1, .methodref 10 11), (0, .class_ 12), (0, .nameAndType 13 14), (0, u "java/lang/Math"), (0, u "min"), (0, u "(JJ)J"), (0, .long 9223372036854775807), (1, .long 2097151), (1, .methodref 20 21), (0, .class_ 22), (0, .nameAndType 23 24), (0, u "com/example/zhengzi/zhengzi/PrecisionRecall"), (0, u "f1"), (0, u "(JJJ)D"), (0, .long 2), (1, .class_ 28), (0, u "com/example/zhengzi/zhengzi/PrecisionRecallF1PinLaw"), (2, u "law"), (0, u "(JJJJJ)Z")] 3

def k1m0 : Method := { name := "<init>", desc := "()V", sig := { parameters := [], returnType := none }, accessFlags := 2, code := none }
def k1c1 : Code := { maxStack := 6, maxLocals := 32, code := code, exceptionTable := #[], attributes := #[] }
def k1m1 : Method := { name := "law", desc := "(JJJJJ)Z", sig := { parameters := [.long, .long, .long, .long, .long], returnType := some .boolean }, accessFlags := 9, code := some k1c1 }
/-- com/example/zhengzi/zhengzi/PrecisionRecallF1PinLaw -/
def k1 : Class := { plain "com/example/zhengzi/zhengzi/PrecisionRecallF1PinLaw" (some 0) with
  accessFlags := 49
  interfaces := #[]
  cf := some (fileOf pool1 27 #[] #[{ accessFlags := 2, nameIndex := 5, descriptorIndex := 6, attributes := #[] }, { accessFlags := 9, nameIndex := 31, descriptorIndex := 32, attributes := #[] }] 49 2 #[] #[])
  fields := #[]
  methods := #[k1m0, k1m1]
  instanceTypes := #[]
  staticTypes := #[]
  resolved := Array.replicate 36 none
  statics := none }

def pool2 : Array CpInfo := pool [(1, .class_ 2), (0, u "java/lang/Math"), (1, .class_ 6), (1, u "java/lang/Object"), (0, u "<init>"), (0, u "()V"), (89, .class_ 100), (1, u "java/lang/Math$RandomNumberGeneratorHolder"), (20, u "(JJ)J"), (50, u "negativeZeroFloatBits"), (0, u "J"), (2, u "negativeZeroDoubleBits"), (24, u "min"), (43, u "$assertionsDisabled"), (0, u "Z"), (91, u "twoToTheDoubleScaleDown"), (0, u "D"), (4, u "twoToTheDoubleScaleUp"), (9, u "E"), (3, u "PI"), (2, u "TAU"), (2, u "DEGREES_TO_RADIANS"), (0, u "RADIANS_TO_DEGREES")] 94

def k2m0 : Method := { name := "<init>", desc := "()V", sig := { parameters := [], returnType := none }, accessFlags := 2, code := none }
def k2c1 : Code := { maxStack := 4, maxLocals := 4, code := jdk_29_method_70_code, exceptionTable := #[], attributes := #[] }
def k2m1 : Method := { name := "min", desc := "(JJ)J", sig := { parameters := [.long, .long], returnType := some .long }, accessFlags := 9, code := some k2c1 }
/-- java/lang/Math -/
def k2 : Class := { plain "java/lang/Math" (some 0) with
  accessFlags := 49
  interfaces := #[]
  cf := some (fileOf pool2 1 #[.nestMembers #[98]] #[{ accessFlags := 2, nameIndex := 7, descriptorIndex := 8, attributes := #[] }, { accessFlags := 9, nameIndex := 201, descriptorIndex := 121, attributes := #[] }] 49 4 #[] #[{ accessFlags := 25, nameIndex := 354, descriptorIndex := 339, attributes := #[] }, { accessFlags := 25, nameIndex := 358, descriptorIndex := 339, attributes := #[] }, { accessFlags := 25, nameIndex := 361, descriptorIndex := 339, attributes := #[] }, { accessFlags := 26, nameIndex := 364, descriptorIndex := 339, attributes := #[] }, { accessFlags := 26, nameIndex := 365, descriptorIndex := 339, attributes := #[] }, { accessFlags := 26, nameIndex := 172, descriptorIndex := 173, attributes := #[] }, { accessFlags := 26, nameIndex := 176, descriptorIndex := 173, attributes := #[] }, { accessFlags := 8, nameIndex := 344, descriptorIndex := 339, attributes := #[] }, { accessFlags := 8, nameIndex := 338, descriptorIndex := 339, attributes := #[] }, { accessFlags := 4120, nameIndex := 245, descriptorIndex := 246, attributes := #[] }])
  fields := #[{ name := "E", type := .double, accessFlags := 25, slot := 0, constantValue := 0 }, { name := "PI", type := .double, accessFlags := 25, slot := 1, constantValue := 0 }, { name := "TAU", type := .double, accessFlags := 25, slot := 2, constantValue := 0 }, { name := "DEGREES_TO_RADIANS", type := .double, accessFlags := 26, slot := 3, constantValue := 0 }, { name := "RADIANS_TO_DEGREES", type := .double, accessFlags := 26, slot := 4, constantValue := 0 }, { name := "negativeZeroFloatBits", type := .long, accessFlags := 26, slot := 5, constantValue := 0 }, { name := "negativeZeroDoubleBits", type := .long, accessFlags := 26, slot := 6, constantValue := 0 }, { name := "twoToTheDoubleScaleUp", type := .double, accessFlags := 8, slot := 7, constantValue := 0 }, { name := "twoToTheDoubleScaleDown", type := .double, accessFlags := 8, slot := 8, constantValue := 0 }, { name := "$assertionsDisabled", type := .boolean, accessFlags := 4120, slot := 9, constantValue := 0 }]
  methods := #[k2m0, k2m1]
  instanceTypes := #[]
  staticTypes := #[.double, .double, .double, .double, .double, .long, .long, .double, .double, .boolean]
  resolved := Array.replicate 460 none
  statics := none }

def pool3 : Array CpInfo := pool [(2, .class_ 4), (1, u "java/lang/Object"), (0, u "<init>"), (0, u "()V"), (0, .double 4611686018427387904), (1, .class_ 10), (0, u "com/example/zhengzi/zhengzi/PrecisionRecall"), (6, u "f1"), (0, u "(JJJ)D")] 2

def k3m0 : Method := { name := "<init>", desc := "()V", sig := { parameters := [], returnType := none }, accessFlags := 2, code := none }
def k3c1 : Code := { maxStack := 6, maxLocals := 6, code := prog_44_method_4_code, exceptionTable := #[], attributes := #[] }
def k3m1 : Method := { name := "f1", desc := "(JJJ)D", sig := { parameters := [.long, .long, .long], returnType := some .double }, accessFlags := 8, code := some k3c1 }
/-- com/example/zhengzi/zhengzi/PrecisionRecall -/
def k3 : Class := { plain "com/example/zhengzi/zhengzi/PrecisionRecall" (some 0) with
  accessFlags := 48
  interfaces := #[]
  cf := some (fileOf pool3 9 #[] #[{ accessFlags := 2, nameIndex := 5, descriptorIndex := 6, attributes := #[] }, { accessFlags := 8, nameIndex := 17, descriptorIndex := 18, attributes := #[] }] 48 2 #[] #[])
  fields := #[]
  methods := #[k3m0, k3m1]
  instanceTypes := #[]
  staticTypes := #[]
  resolved := Array.replicate 21 none
  statics := none }

def pool4 : Array CpInfo := pool [(1, u "java/lang/Cloneable"), (0, .class_ 1), (0, u "java/lang/Object"), (0, .class_ 3)] 3

/-- java/lang/Cloneable -/
def k4 : Class := { plain "java/lang/Cloneable" (some 0) with
  accessFlags := 1537
  interfaces := #[]
  cf := some (fileOf pool4 2 #[] #[] 1537 4 #[] #[])
  fields := #[]
  methods := #[]
  instanceTypes := #[]
  staticTypes := #[]
  resolved := Array.replicate 8 none
  statics := none }

def pool5 : Array CpInfo := pool [(1, u "java/io/Serializable"), (0, .class_ 1), (0, u "java/lang/Object"), (0, .class_ 3)] 3

/-- java/io/Serializable -/
def k5 : Class := { plain "java/io/Serializable" (some 0) with
  accessFlags := 1537
  interfaces := #[]
  cf := some (fileOf pool5 2 #[] #[] 1537 4 #[] #[])
  fields := #[]
  methods := #[]
  instanceTypes := #[]
  staticTypes := #[]
  resolved := Array.replicate 8 none
  statics := none }

/-- the primitive byte -/
def k6 : Class := { plain "byte" none with kind := .primitive 'B', accessFlags := 0x411 }
/-- [B -/
def k7 : Class := { plain "[B" (some 0) with kind := .array 6 .byte, interfaces := #[4, 5], accessFlags := 1041 }

/-- the primitive int -/
def k8 : Class := { plain "int" none with kind := .primitive 'I', accessFlags := 0x411 }
/-- [I -/
def k9 : Class := { plain "[I" (some 0) with kind := .array 8 .int, interfaces := #[4, 5], accessFlags := 1041 }

def heap : Heap := #[]
def classes : Array Class := #[k0, k1, k2, k3, k4, k5, k6, k7, k8, k9]
def interned : List (Array UInt16 × Addr) := []
def slotsUsed : Nat := 0
def theMethod : MethodId := ⟨1, 1⟩
def args0 : Array Value := #[.long 5, .long 6, .long 7, .long 8, .long 9]
def aboutOver (below : List Frame) : State where
  vm := { classes := classes, interned := interned.toArray }
  heap := heap
  slotsUsed := slotsUsed
  threads := #[{ frames := .invoking theMethod args0 :: below }]
def below0 : List Frame := [.native { method := ⟨0, 0⟩, args := #[] }]
def about1 : State := aboutOver below0
def p0 : Program := .bare "" "" ""
def e0 : Env := launch0.env 0 0 0
theorem w_frames : about1.frames = Frame.invoking theMethod args0 :: below0 := rfl
set_option maxRecDepth 65536 in
theorem w_args : argsFit about1.vm theMethod args0 = true := by decide +kernel
set_option maxRecDepth 65536 in
theorem w_heap : heapFits about1 = true := by decide +kernel
set_option maxRecDepth 65536 in
theorem w_runnable : about1.curStatus? = some .runnable := by decide +kernel
set_option maxRecDepth 65536 in
theorem w_alone : about1.alone = true := by decide +kernel
set_option maxRecDepth 65536 in
theorem w_named : about1.methodNamed? x = some theMethod := by decide +kernel
set_option maxRecDepth 65536 in
theorem w_hears : about1.hears theMethod below0 = true := by decide +kernel
set_option maxRecDepth 65536 in
theorem w_ripe : about1.ripe theMethod args0 below0 = true := by decide +kernel
theorem w_running : about1.status = .running := rfl
set_option maxRecDepth 65536 in
theorem w_room : about1.hasRoom e0.platform room_1 = true :=
  launch0.hasRoom_least _ room_1 (by decide +kernel) (by decide +kernel) (by decide +kernel) (by decide +kernel) (by decide +kernel) (by decide +kernel)
theorem allAtoms_all (ts : List Jvm.Cond) (a : Array Jvm.Value) (st : Jvm.State) : (allAtoms ts).before a st = ts.all (fun c => c.before a st) := by
  induction ts with
  | nil => rfl
  | cons c t ih =>
    show (Jvm.Cond.and c (allAtoms t)).before a st = _
    rw [Jvm.Cond.before_and, ih, List.all_cons]
def words1 : List Jvm.Cond := Jvm.Cond.code x code maxLocals ret :: tables_1
/-- a 'code' word, met by the world's own term for the bytes: nothing is compared byte by byte -/
theorem code_word {y : MethodName} {bytes : ByteArray} {mx : Nat} {rt : Option FieldType} {a : Array Value} {s : State} {m : MethodId} {meth : Method} {c : Code} (h1 : s.methodNamed? y = some m) (h2 : s.vm.method? m = some meth) (h3 : meth.code = some c) (h4 : c.code = bytes)
    (h5 : (c.maxLocals == mx && c.exceptionTable.isEmpty && decide (c.maxStack ≤ mostOperands) && decide (meth.sig.returnType = rt) && !meth.locks && decide (parseMethodDescriptor y.desc = some meth.sig)) = true) : (Jvm.Cond.code y bytes mx rt).before a s = true := by
  simp only [Bool.and_eq_true, beq_iff_eq, Bool.not_eq_true', decide_eq_true_eq] at h5
  obtain ⟨⟨⟨⟨⟨g1, g2⟩, g3⟩, g4⟩, g5⟩, g6⟩ := h5
  simp [Cond.before, Cond.holds, Cond.value, h1, h2, h3, h4, g1, g2, g3, g4, g5, g6]
def isCode : Jvm.Cond → Bool
  | .code _ _ _ _ => true
  | _ => false
theorem all_split {L : List Jvm.Cond} {P : Jvm.Cond → Bool} (h1 : L.all (fun c => isCode c || P c) = true) (h2 : ∀ c ∈ L.filter isCode, P c = true) : L.all P = true := by
  refine List.all_eq_true.mpr fun c hc => ?_
  have h := List.all_eq_true.mp h1 c hc
  rcases Bool.eq_false_or_eq_true (isCode c) with hi | hi
  · exact h2 c (List.mem_filter.mpr ⟨hc, hi⟩)
  · simpa [hi] using h
set_option maxRecDepth 65536 in
theorem w_c0 : (Jvm.Cond.code x code maxLocals ret).before args0 about1 = true := code_word (m := ⟨1, 1⟩) (meth := k1m1) (c := k1c1) (by decide +kernel) rfl rfl rfl (by decide +kernel)
set_option maxRecDepth 65536 in
theorem w_c1 : (Jvm.Cond.code ({ cls := "java/lang/Math", name := "min", desc := "(JJ)J" } : Jvm.MethodName) jdk_29_method_70_code (4 : Nat) (Option.some Jvm.ClassFile.FieldType.long)).before args0 about1 = true := code_word (m := ⟨2, 1⟩) (meth := k2m1) (c := k2c1) (by decide +kernel) rfl rfl rfl (by decide +kernel)
set_option maxRecDepth 65536 in
theorem w_c2 : (Jvm.Cond.code ({ cls := "com/example/zhengzi/zhengzi/PrecisionRecall", name := "f1", desc := "(JJJ)D" } : Jvm.MethodName) prog_44_method_4_code (6 : Nat) (Option.some Jvm.ClassFile.FieldType.double)).before args0 about1 = true := code_word (m := ⟨3, 1⟩) (meth := k3m1) (c := k3c1) (by decide +kernel) rfl rfl rfl (by decide +kernel)
def codes1 : List Jvm.Cond := [Jvm.Cond.code x code maxLocals ret, Jvm.Cond.code ({ cls := "java/lang/Math", name := "min", desc := "(JJ)J" } : Jvm.MethodName) jdk_29_method_70_code (4 : Nat) (Option.some Jvm.ClassFile.FieldType.long), Jvm.Cond.code ({ cls := "com/example/zhengzi/zhengzi/PrecisionRecall", name := "f1", desc := "(JJJ)D" } : Jvm.MethodName) prog_44_method_4_code (6 : Nat) (Option.some Jvm.ClassFile.FieldType.double)]
set_option maxRecDepth 65536 in
theorem codes_eq : words1.filter isCode = codes1 := rfl
theorem w_codes : ∀ c ∈ words1.filter isCode, c.before args0 about1 = true := by
  rw [codes_eq]
  intro c hc
  simp only [codes1, List.mem_cons, List.not_mem_nil, or_false] at hc
  rcases hc with rfl | rfl | rfl
  · exact w_c0
  · exact w_c1
  · exact w_c2
set_option maxRecDepth 65536 in
theorem w_t1 : words1.all (fun c => isCode c || c.before args0 about1) = true := by decide +kernel
theorem w_tables : (allAtoms (Jvm.Cond.code x code maxLocals ret :: tables_1)).before args0 about1 = true := by
  rw [allAtoms_all]
  show words1.all (fun c => c.before args0 about1) = true
  refine all_split ?_ w_codes
  rw [w_t1]
set_option maxRecDepth 65536 in
theorem w_case : (Jvm.Cond.and given_1 narrow_1).before args0 about1 = true := by decide +kernel
theorem w_applies : (headSpec (Jvm.Cond.code x code maxLocals ret :: tables_1) room_1).applies x e0.platform about1 = true :=
  (Spec.applies_iff w_frames).mpr ⟨w_running, w_runnable, w_alone, w_named, w_hears, w_ripe, w_room, w_tables⟩
theorem atStart : AtStart classFile x code maxLocals ret World_1 tables_1 room_1 Calls_1 rest_1 Pre_1 launch0 p0 e0 about1 theMethod args0 below0 :=
  ⟨lists_1, trivial, launch0.admits_env _ _ _, launch0.least_env, fairChoices_fair.cas, fairChoices_fair.clock, w_frames, w_args, w_heap, w_applies, trivial, trivial, w_case⟩
end start1
theorem witness_1 : WitnessClaimed_1 := ⟨start1.p0, start1.e0, start1.about1, start1.theMethod, start1.args0, start1.below0, start1.atStart⟩
end Jvm.Pilot.@@N@@
