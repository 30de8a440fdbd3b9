import JvmDerived
import JvmDerived.Pilot.@@N@@Statement
import JvmDerived.Pilot.@@N@@Code
set_option linter.unusedVariables false
set_option linter.unusedSimpArgs false
namespace Jvm.RoadKit
open Sem ClassFile Op Lib Jvm.Stand Jvm.Free Jvm.LawKit
section New
variable {p : Program} {l : Launch} {e : Env} {R : Room} {s : State} {m : MethodId} {args : Array Value} {below : List Frame} {meth : Method} {c : Code} {T : State} {locs : List Loc} {cells slots : Nat}
theorem retI (X : Stand p l e R s m args below meth c T locs cells slots) (hx : p.tables.exec = Jvm.exec) {pc : Nat} {Ls : Array Slot} {z : Int32} {rest : List Value} (hret : meth.sig.returnType = some .int) (hd : decode c.code pc = .ok (.ireturn, 1)) {fs : List Frame}
    (hl : ∀ (f : JFrame) (acts : List Action), f.method = m → f.locked = none → f.entered = [] → (doReturn e (T.setTop f) acts (some (.int z))).1 = T.setFrames fs) : Steps p.tables e below (T.setTop (mkF m pc Ls (.int z :: rest))) (T.setFrames fs) :=
  retOut X hx hret rfl (Or.inl ⟨rfl, Or.inl rfl, z, rfl⟩) hd hl
theorem retJ (X : Stand p l e R s m args below meth c T locs cells slots) (hx : p.tables.exec = Jvm.exec) {pc : Nat} {Ls : Array Slot} {z : Int64} {rest : List Value} (hret : meth.sig.returnType = some .long) (hd : decode c.code pc = .ok (.lreturn, 1)) {fs : List Frame}
    (hl : ∀ (f : JFrame) (acts : List Action), f.method = m → f.locked = none → f.entered = [] → (doReturn e (T.setTop f) acts (some (.long z))).1 = T.setFrames fs) : Steps p.tables e below (T.setTop (mkF m pc Ls (.long z :: rest))) (T.setFrames fs) :=
  retOut X hx hret rfl (Or.inr (Or.inl ⟨rfl, rfl, z, rfl⟩)) hd hl
theorem retA (X : Stand p l e R s m args below meth c T locs cells slots) (hx : p.tables.exec = Jvm.exec) {pc : Nat} {Ls : Array Slot} {w : Value} {rest : List Value} {t : FieldType} (hret : meth.sig.returnType = some t) (ht : t.isReference = true) (hn : narrow t w = w) (hw : w.isRef = true) (hd : decode c.code pc = .ok (.areturn, 1)) {fs : List Frame}
    (hl : ∀ (f : JFrame) (acts : List Action), f.method = m → f.locked = none → f.entered = [] → (doReturn e (T.setTop f) acts (some w)).1 = T.setFrames fs) : Steps p.tables e below (T.setTop (mkF m pc Ls (w :: rest))) (T.setFrames fs) :=
  retOut X hx hret hn (Or.inr (Or.inr (Or.inr (Or.inr ⟨rfl, ht, hw⟩)))) hd hl
end New
end Jvm.RoadKit
namespace Jvm.Pilot.@@N@@
open Jvm Jvm.ClassFile Sem Op Lib Jvm.Free Jvm.Stand Jvm.LawKit Jvm.RoadKit Bundle Jvm.Pilot.@@N@@.Jvm.D
theorem own_ext {h0 h : Heap} (K : Keep h0 h []) : Ext h0 h := ⟨K.1, fun a c q => K.2.1 a c q nin0⟩

theorem own_ladd {x y : Int64} {a b : Int} (hx : x.toInt = a) (hy : y.toInt = b) (h1 : -9223372036854775808 ≤ a + b) (h2 : a + b < 9223372036854775808) : (x + y).toInt = a + b := by
  have h := c_ladd x y; have r := rng64 (x + y); rw [hx, hy] at h; omega
theorem own_lsub {x y : Int64} {a b : Int} (hx : x.toInt = a) (hy : y.toInt = b) (h1 : -9223372036854775808 ≤ a - b) (h2 : a - b < 9223372036854775808) : (x - y).toInt = a - b := by
  have h := c_lsub x y; have r := rng64 (x - y); rw [hx, hy] at h; omega
theorem own_lmul {x y : Int64} {a b : Int} (hx : x.toInt = a) (hy : y.toInt = b) (h1 : -9223372036854775808 ≤ a * b) (h2 : a * b < 9223372036854775808) : (x * y).toInt = a * b := by
  have h := c_lmul x y; have r := rng64 (x * y); rw [hx, hy] at h; omega
theorem own_ldiv {x y : Int64} {a : Int} (d : Int) (hx : x.toInt = a) (hy : y.toInt = d) (h0 : 0 ≤ a) (h1 : y ≠ -1) : (x / y).toInt = a / d := by
  have h := (c_ldiv x y d hy h1).1 (by omega); rw [hx] at h; exact h

def own_max (x y : Int32) : Int32 := if x < y then y else x
def own_maxL (x y : Int64) : Int64 := if x < y then y else x
def own_minL (x y : Int64) : Int64 := if y < x then y else x
def own_st (i : Int64) (s : Int32) : Int64 := if ((9223372036854775807 : Int64) / (s.toInt64)) < (i - (1 : Int64)) then (9223372036854775807 : Int64) else ((i - (1 : Int64)) * (s.toInt64))
def own_tk (i : Int64) (s : Int32) (t : Int64) : Int32 := if own_st i s < t then (own_minL (s.toInt64) (t - own_st i s)).toInt32 else 0
def own_af (i : Int64) (s : Int32) (t : Int64) : Int64 := (t - own_st i s) - (own_tk i s t).toInt64
def own_bw (i : Int64) (s : Int32) (t : Int64) : Int32 := if own_st i s < t then (if own_af i s t < own_st i s then 1 else 0) else 0
def own_sk (i : Int64) (s : Int32) (t : Int64) : Int64 := if own_st i s < t then (if own_af i s t < own_st i s then own_af i s t else own_st i s) else 0
theorem own_k0 : (0 : Int64).toInt = 0 := by decide
theorem own_k1 : (1 : Int64).toInt = 1 := by decide
theorem own_kM : (9223372036854775807 : Int64).toInt = 9223372036854775807 := by decide
theorem own_ne0 {x : Int32} (h : (0 : Int32) < x) : (x.toInt64) ≠ 0 := by
  intro q
  have h1 := c_i2l x
  rw [q, own_k0] at h1
  rw [Int32.lt_iff_toInt_lt] at h
  have h2 : (0 : Int32).toInt = 0 := by decide
  omega
theorem own_nmax (t : Int64) : ¬ ((9223372036854775807 : Int64) < t) := by
  have h := rng64 t
  rw [Int64.lt_iff_toInt_lt, own_kM]; omega
theorem own_s1 (x : Int32) : (0 : Int32) < own_max (1 : Int32) (x &&& (2147483647 : Int32)) := by
  have h1 : (1 : Int32).toInt = 1 := by decide
  have h0 : (0 : Int32).toInt = 0 := by decide
  unfold own_max
  split
  · rename_i h; rw [Int32.lt_iff_toInt_lt] at h ⊢; omega
  · decide
theorem own_i1 (x : Int64) : 1 ≤ (own_maxL (1 : Int64) (x &&& (9223372036854775807 : Int64))).toInt := by
  have h1 : (1 : Int64).toInt = 1 := by decide
  unfold own_maxL
  split
  · rename_i h; rw [Int64.lt_iff_toInt_lt] at h; omega
  · omega
theorem own_t0 (x : Int64) : 0 ≤ (x &&& (9223372036854775807 : Int64)).toInt := by
  have := c_maskL x (9223372036854775807 : Int64) 63 (by decide) (by decide); omega
theorem own_three (x : Int32) (h0 : ¬ ((x &&& (2147483647 : Int32)) % (3 : Int32)) = (0 : Int32)) (h1 : ¬ ((x &&& (2147483647 : Int32)) % (3 : Int32)) = (1 : Int32)) : ((x &&& (2147483647 : Int32)) % (3 : Int32)) = (2 : Int32) := by
  have a1 := (c_and x (2147483647 : Int32) (by decide)).1
  have a2 := (c_irem (x &&& (2147483647 : Int32)) 3 3 (by decide)).1 a1
  have k0 : (0 : Int32).toInt = 0 := by decide
  have k1 : (1 : Int32).toInt = 1 := by decide
  have k2 : (2 : Int32).toInt = 2 := by decide
  simp only [← Int32.toInt_inj, k0, k1, k2] at h0 h1 ⊢
  omega

theorem own_pages {t pg w : Int64} {s : Int32} (hs : (0 : Int32) < s) (ht : 0 ≤ t.toInt) (hw : w = if (t - (t / (s.toInt64)) * (s.toInt64)) = (0 : Int64) then (0 : Int64) else (1 : Int64)) (hp : pg = ((t / (s.toInt64)) + w)) :
    0 < s.toInt ∧ ∃ W : Int, pg.toInt = t.toInt / s.toInt + W ∧ ((t.toInt % s.toInt = 0 ∧ W = 0) ∨ (t.toInt % s.toInt ≠ 0 ∧ W = 1)) := by
  have hS : 0 < s.toInt := by
    rw [Int32.lt_iff_toInt_lt] at hs
    have h2 : (0 : Int32).toInt = 0 := by decide
    omega
  have e := c_i2l s
  have hn : s.toInt64 ≠ -1 := fun q => by
    rw [q] at e
    have h2 : (-1 : Int64).toInt = -1 := by decide
    omega
  have d1 := (c_ldiv t s.toInt64 s.toInt e hn).1 ht
  have d2 := (c_lrem t s.toInt64 s.toInt e).1 ht
  have rt := rng64 t
  refine ⟨hS, ?_⟩
  generalize s.toInt = S at *
  have a1 := Int.emod_add_mul_ediv t.toInt S
  have a2 := Int.emod_nonneg t.toInt (by omega : S ≠ 0)
  have a3 := Int.emod_lt_of_pos t.toInt hS
  have a4 : 0 ≤ t.toInt / S := Int.ediv_nonneg ht (by omega)
  by_cases z : t.toInt % S = 0
  · have hw0 : w = 0 := by rw [hw, if_pos]; apply Int64.toInt_inj.mp; rw [d2, z]; rfl
    refine ⟨0, ?_, Or.inl ⟨z, rfl⟩⟩
    have b1 : 1 * (t.toInt / S) ≤ S * (t.toInt / S) := Int.mul_le_mul_of_nonneg_right (by omega) a4
    rw [hp, hw0]
    exact own_ladd d1 own_k0 (by omega) (by omega)
  · have hw1 : w = 1 := by rw [hw, if_neg]; intro q; apply z; rw [← d2, q]; rfl
    refine ⟨1, ?_, Or.inr ⟨z, rfl⟩⟩
    have s2 : 2 ≤ S := by
      rcases Int.lt_or_le S 2 with q | q
      · have : S = 1 := by omega
        subst this; omega
      · exact q
    have b1 : 2 * (t.toInt / S) ≤ S * (t.toInt / S) := Int.mul_le_mul_of_nonneg_right s2 a4
    rw [hp, hw1]
    exact own_ladd d1 own_k1 (by omega) (by omega)
theorem own_prod {i : Int64} {s : Int32} (hS : 0 < s.toInt) (hi : 1 ≤ i.toInt) (h : (i.toInt - 1) * s.toInt ≤ 9223372036854775807) : ((i - (1 : Int64)) * (s.toInt64)).toInt = (i.toInt - 1) * s.toInt := by
  have ri := rng64 i
  have e1 := own_lsub (x := i) rfl own_k1 (by omega) (by omega)
  have p : 0 ≤ (i.toInt - 1) * s.toInt := Int.mul_nonneg (by omega) (by omega)
  exact own_lmul e1 (c_i2l s) (by omega) (by omega)
theorem own_over {i : Int64} {s : Int32} (hS : 0 < s.toInt) (hi : 1 ≤ i.toInt) : ((9223372036854775807 : Int64) / (s.toInt64)) < (i - (1 : Int64)) ↔ 9223372036854775807 < (i.toInt - 1) * s.toInt := by
  have ri := rng64 i
  have e1 := own_lsub (x := i) rfl own_k1 (by omega) (by omega)
  have e := c_i2l s
  have hn : s.toInt64 ≠ -1 := fun q => by
    rw [q] at e
    have h2 : (-1 : Int64).toInt = -1 := by decide
    omega
  have d1 := (c_ldiv (9223372036854775807 : Int64) s.toInt64 s.toInt e hn).1 (by decide)
  rw [Int64.lt_iff_toInt_lt, d1, e1, own_kM, Int.ediv_lt_iff_lt_mul hS]
theorem own_L1 {i t pg w : Int64} {s : Int32} (hs : (0 : Int32) < s) (hi : 1 ≤ i.toInt) (ht : 0 ≤ t.toInt) (hw : w = if (t - (t / (s.toInt64)) * (s.toInt64)) = (0 : Int64) then (0 : Int64) else (1 : Int64)) (hp : pg = ((t / (s.toInt64)) + w)) (h : pg < i) : ¬ own_st i s < t := by
  obtain ⟨hS, W, h1, h2⟩ := own_pages hs ht hw hp
  unfold own_st
  split
  · exact own_nmax t
  · rename_i q
    rw [own_over hS hi] at q
    have q' := own_prod hS hi (by omega)
    rw [Int64.lt_iff_toInt_lt] at h ⊢
    rw [q']
    generalize s.toInt = S at *
    have a1 := Int.emod_add_mul_ediv t.toInt S
    have a2 := Int.emod_nonneg t.toInt (by omega : S ≠ 0)
    have a3 := Int.emod_lt_of_pos t.toInt hS
    have b1 : (t.toInt / S + W) * S ≤ (i.toInt - 1) * S := Int.mul_le_mul_of_nonneg_right (by omega) (by omega)
    rw [Int.add_mul, Int.mul_comm (t.toInt / S) S] at b1
    rcases h2 with ⟨z, w0⟩ | ⟨z, w1⟩
    · subst w0; omega
    · subst w1; omega
theorem own_L2 {i t pg w : Int64} {s : Int32} (hs : (0 : Int32) < s) (hi : 1 ≤ i.toInt) (ht : 0 ≤ t.toInt) (hw : w = if (t - (t / (s.toInt64)) * (s.toInt64)) = (0 : Int64) then (0 : Int64) else (1 : Int64)) (hp : pg = ((t / (s.toInt64)) + w)) (h : ¬ (pg < i)) :
    own_st i s = ((i - (1 : Int64)) * (s.toInt64)) ∧ ((i - (1 : Int64)) * (s.toInt64)) < t ∧ own_minL (s.toInt64) (t - ((i - (1 : Int64)) * (s.toInt64))) = (if i < pg then (s.toInt64) else (t - ((i - (1 : Int64)) * (s.toInt64)))) ∧ (if i < pg then (s.toInt64) else (t - ((i - (1 : Int64)) * (s.toInt64)))).toInt32.toInt64 = (if i < pg then (s.toInt64) else (t - ((i - (1 : Int64)) * (s.toInt64)))) := by
  obtain ⟨hS, W, h1, h2⟩ := own_pages hs ht hw hp
  have rt := rng64 t
  have rs := rng32 s
  have e := c_i2l s
  rw [Int64.lt_iff_toInt_lt] at h
  have a1 := Int.emod_add_mul_ediv t.toInt s.toInt
  have a2 := Int.emod_nonneg t.toInt (by omega : s.toInt ≠ 0)
  have a3 := Int.emod_lt_of_pos t.toInt hS
  have b1 : (i.toInt - 1) * s.toInt ≤ (t.toInt / s.toInt + W - 1) * s.toInt := Int.mul_le_mul_of_nonneg_right (by omega) (by omega)
  rw [Int.sub_mul (t.toInt / s.toInt + W), Int.add_mul, Int.mul_comm (t.toInt / s.toInt) s.toInt] at b1
  have lt : (i.toInt - 1) * s.toInt < t.toInt := by
    rcases h2 with ⟨z, w0⟩ | ⟨z, w1⟩
    · subst w0; omega
    · subst w1; omega
  have p : 0 ≤ (i.toInt - 1) * s.toInt := Int.mul_nonneg (by omega) (by omega)
  have q' := own_prod hS hi (by omega)
  have ov : ¬ ((9223372036854775807 : Int64) / (s.toInt64)) < (i - (1 : Int64)) := by rw [own_over hS hi]; omega
  have sb := own_lsub (x := t) rfl q' (by omega) (by omega)
  have c1 : i.toInt < pg.toInt → s.toInt < t.toInt - (i.toInt - 1) * s.toInt := by
    intro k
    have b2 : i.toInt * s.toInt ≤ (t.toInt / s.toInt + W - 1) * s.toInt := Int.mul_le_mul_of_nonneg_right (by omega) (by omega)
    rw [Int.sub_mul (t.toInt / s.toInt + W), Int.add_mul, Int.mul_comm (t.toInt / s.toInt) s.toInt] at b2
    rw [Int.sub_mul] at *
    rcases h2 with ⟨z, w0⟩ | ⟨z, w1⟩
    · subst w0; omega
    · subst w1; omega
  have c2 : ¬ i.toInt < pg.toInt → t.toInt - (i.toInt - 1) * s.toInt ≤ s.toInt := by
    intro k
    have b2 : (t.toInt / s.toInt + W) * s.toInt = i.toInt * s.toInt := by rw [← h1]; congr 1; omega
    rw [Int.add_mul, Int.mul_comm (t.toInt / s.toInt) s.toInt] at b2
    rw [Int.sub_mul] at *
    rcases h2 with ⟨z, w0⟩ | ⟨z, w1⟩
    · subst w0; omega
    · subst w1; omega
  refine ⟨by unfold own_st; rw [if_neg ov], by rw [Int64.lt_iff_toInt_lt, q']; exact lt, ?_, ?_⟩
  · unfold own_minL
    by_cases k : i < pg
    · rw [if_pos k]
      rw [Int64.lt_iff_toInt_lt] at k
      have := c1 k
      rw [if_neg]; rw [Int64.lt_iff_toInt_lt, sb, e]; omega
    · rw [if_neg k]
      rw [Int64.lt_iff_toInt_lt] at k
      have := c2 k
      split
      · rfl
      · rename_i z; rw [Int64.lt_iff_toInt_lt, sb, e] at z; apply Int64.toInt_inj.mp; rw [sb, e]; omega
  · by_cases k : i < pg
    · rw [if_pos k]
      apply Int64.toInt_inj.mp
      have l := c_l2i s.toInt64
      have r := rng32 s.toInt64.toInt32
      rw [c_i2l]; omega
    · rw [if_neg k]
      rw [Int64.lt_iff_toInt_lt] at k
      have := c2 k
      apply Int64.toInt_inj.mp
      have l := c_l2i (t - ((i - (1 : Int64)) * (s.toInt64)))
      have r := rng32 (t - ((i - (1 : Int64)) * (s.toInt64))).toInt32
      rw [c_i2l]; omega
theorem own_fi {args : Array Value} {s : State} {t : Term} {a : Addr} {C n d : String} {k : Int32} (ev : t.eval args s none [] s = some (.ref a)) (h : (Cond.eq (.field t C n d) (.int k)).value args s none s [] = some true) : s.fieldOf? a C n d = some (.int k) := by
  have e1 : (Term.field t C n d).eval args s none [] s = s.fieldOf? a C n d := fld_at ev
  have e2 : (Term.int k).eval args s none [] s = some (.int k) := rfl
  cases q : s.fieldOf? a C n d with
  | none => rw [q] at e1; simp [Cond.value, e1] at h
  | some v => rw [q] at e1; cases v <;> simp_all [Cond.value]
theorem own_pn0 : plainName "java/lang/Record" = true := by first | (simp [plainName, overriddenIn]; done) | decide +kernel
theorem own_d4_0 : decode jdk_30_method_1_code 0 = .ok (.aload_n 0, 1) := by decide +kernel
theorem own_d4_1 : decode jdk_30_method_1_code 1 = .ok (.invokespecial 1, 3) := by decide +kernel
theorem own_d4_4 : decode jdk_30_method_1_code 4 = .ok (.return_, 1) := by decide +kernel
def own_Q4 (Z : State) (xthis : Addr) (h0 : Heap) (n0 : Nat) (v : Option Value) (h : Heap) (L : List Loc) : Prop := v = none ∧ Fr n0 L ∧ h = h0
theorem own_ef4 (m : MethodId) (xthis : Addr) : entryFrame m #[(.ref xthis)] 1 = mkF m 0 #[.val (.ref xthis)] [] := by first | (simp [entryFrame, mkF, argsToLocals, Value.category]; done) | rfl
set_option maxRecDepth 65536 in
set_option maxHeartbeats 40000000 in
theorem own_rm4 (l : Launch) (Z : State) (a0 : Array Value) (hw : ∀ d ∈ tables_1, d.before a0 Z = true) (ws : List Jvm.Cond) (xthis : Addr) (h0 : Heap) (n0 : Nat) (Z0 : n0 ≤ h0.size)  :
    MetFree l (⟨"java/lang/Record", "<init>", "()V"⟩ : MethodName) (head1 (Jvm.Cond.code (⟨"java/lang/Record", "<init>", "()V"⟩ : MethodName) jdk_30_method_1_code 1 none :: ws) ({ frames := 1, cells := 0, slots := 0, locals := 12 } : Room)) (fun a U => a = #[(.ref xthis)] ∧ Z.Warmed39 U.vm ∧ U.heap = h0) (fun _ _ _ _ _ => True) (fun _ U o U' => ∃ v L, o = .returned v ∧ own_Q4 Z xthis h0 n0 v U'.heap L ∧ FrameEnd U o U' L ({ frames := 1, cells := 0, slots := 0, locals := 12 } : Room).cells ({ frames := 1, cells := 0, slots := 0, locals := 12 } : Room).slots) := by
  refine MetFree.of_bodySF (plainFor_of_name own_pn0) hisR ?_
  intro p e s m args below meth c s₁ Bd hml0 hP hK
  obtain ⟨rfl, hZ, hh⟩ := hP
  have hx := Bd.exec
  have hby := Bd.bytes
  have hml : c.maxLocals = 1 := hml0
  have hown : s.vm.findClass "java/lang/Record" = some m.cls := findClass_of_methodNamed Bd.named
  have hnm := (name_of_methodNamed Bd.named Bd.method).1
  have X0 : Stand p l e ({ frames := 1, cells := 0, slots := 0, locals := 12 } : Room) s m #[(.ref xthis)] below meth c s₁ [] 0 0 := Stand.of_body Bd
  have e0 : s₁.heap = h0 := by rw [← hh, Bd.state]; rfl
  have N0 := Fr.nil n0
  have pre0 : ∀ t, Steps p.tables e below (s₁.setTop (mkF m 0 #[.val (.ref xthis)] [])) t → Steps p.tables e below (s₁.setTop (entryFrame m #[(.ref xthis)] 1)) t := fun t k => castTop (own_ef4 m xthis) k
  obtain ⟨T1, X1, e1, st1⟩ := initO X0 hx hZ hown (hw _ (List.mem_of_getElem? (i := 23) rfl)) (hw _ (List.mem_of_getElem? (i := 24) rfl)) (hw _ (List.mem_of_getElem? (i := 25) rfl)) e0 (g := (mkF m 1 #[.val (.ref xthis)] [(.ref xthis)])) rfl (by rw [hml]; rfl) rfl (hb hby own_d4_1) (by decide) (W := 0) (by show 2 * 0 + _ ≤ _; exact Nat.le_of_eq rfl) (by decide)
  obtain ⟨fs, hr, hrun, hended, hW, hsame⟩ := X1.leave (v := none) (fun _ => rfl)
  refine ⟨_, _, pre0 _ ?_, hrun, hended, _, _, rfl, ?_, ⟨_, rfl⟩, hW, hsame.mono (by decide) (by decide)⟩
  · show Steps p.tables e below (s₁.setTop (mkF m 0 #[.val (.ref xthis)] [])) _
    refine XS.aloadN X0.here hx rfl (hb hby own_d4_0) rfl rfl ?_
    show Steps p.tables e below (s₁.setTop (mkF m 1 #[.val (.ref xthis)] [(.ref xthis)])) _
    refine st1 _ ?_
    show Steps p.tables e below (T1.setTop (mkF m 4 #[.val (.ref xthis)] [])) _
    exact X1.returnOut hx Bd.returns (hb hby own_d4_4) hr
  · show own_Q4 Z xthis h0 n0 _ T1.heap _
    rw [e1]
    exact ⟨rfl, N0, rfl⟩
theorem own_d1_0 : decode jdk_29_method_65_code 0 = .ok (.iload_n 0, 1) := by decide +kernel
theorem own_d1_1 : decode jdk_29_method_65_code 1 = .ok (.iload_n 1, 1) := by decide +kernel
theorem own_d1_2 : decode jdk_29_method_65_code 2 = .ok (.if_icmp .lt 7, 3) := by decide +kernel
theorem own_d1_5 : decode jdk_29_method_65_code 5 = .ok (.iload_n 0, 1) := by decide +kernel
theorem own_d1_6 : decode jdk_29_method_65_code 6 = .ok (.goto 4, 3) := by decide +kernel
theorem own_d1_9 : decode jdk_29_method_65_code 9 = .ok (.iload_n 1, 1) := by decide +kernel
theorem own_d1_10 : decode jdk_29_method_65_code 10 = .ok (.ireturn, 1) := by decide +kernel
def own_Q1 (Z : State) (x1 : Int32) (x2 : Int32) (h0 : Heap) (n0 : Nat) (v : Option Value) (h : Heap) (L : List Loc) : Prop := v = some (.int (own_max x1 x2)) ∧ Fr n0 L ∧ h = h0
theorem own_ef1 (m : MethodId) (x1 : Int32) (x2 : Int32) : entryFrame m #[(.int x1), (.int x2)] 2 = mkF m 0 #[.val (.int x1), .val (.int x2)] [] := by first | (simp [entryFrame, mkF, argsToLocals, Value.category]; done) | rfl
set_option maxRecDepth 65536 in
set_option maxHeartbeats 40000000 in
theorem own_rm1 (l : Launch) (Z : State) (a0 : Array Value) (hw : ∀ d ∈ tables_1, d.before a0 Z = true) (ws : List Jvm.Cond) (x1 : Int32) (x2 : Int32) (h0 : Heap) (n0 : Nat) (Z0 : n0 ≤ h0.size)  :
    MetFree l (⟨"java/lang/Math", "max", "(II)I"⟩ : MethodName) (head1 (Jvm.Cond.code (⟨"java/lang/Math", "max", "(II)I"⟩ : MethodName) jdk_29_method_65_code 2 (some .int) :: ws) ({ frames := 0, cells := 0, slots := 0, locals := 0 } : Room)) (fun a U => a = #[(.int x1), (.int x2)] ∧ Z.Warmed39 U.vm ∧ U.heap = h0) (fun _ _ _ _ _ => True) (fun _ U o U' => ∃ v L, o = .returned v ∧ own_Q1 Z x1 x2 h0 n0 v U'.heap L ∧ FrameEnd U o U' L ({ frames := 0, cells := 0, slots := 0, locals := 0 } : Room).cells ({ frames := 0, cells := 0, slots := 0, locals := 0 } : Room).slots) := by
  refine MetFree.of_bodySF (Jvm.Free.JP.mathPlain rfl (by decide +kernel)) hisR ?_
  intro p e s m args below meth c s₁ Bd hml0 hP hK
  obtain ⟨rfl, hZ, hh⟩ := hP
  have hx := Bd.exec
  have hby := Bd.bytes
  have hml : c.maxLocals = 2 := hml0
  have hown : s.vm.findClass "java/lang/Math" = some m.cls := findClass_of_methodNamed Bd.named
  have hnm := (name_of_methodNamed Bd.named Bd.method).1
  have X0 : Stand p l e ({ frames := 0, cells := 0, slots := 0, locals := 0 } : Room) s m #[(.int x1), (.int x2)] below meth c s₁ [] 0 0 := Stand.of_body Bd
  have e0 : s₁.heap = h0 := by rw [← hh, Bd.state]; rfl
  have N0 := Fr.nil n0
  have pre0 : ∀ t, Steps p.tables e below (s₁.setTop (mkF m 0 #[.val (.int x1), .val (.int x2)] [])) t → Steps p.tables e below (s₁.setTop (entryFrame m #[(.int x1), (.int x2)] 2)) t := fun t k => castTop (own_ef1 m x1 x2) k
  have pre1 : ∀ t, Steps p.tables e below (s₁.setTop (mkF m 2 #[.val (.int x1), .val (.int x2)] [(.int x2), (.int x1)])) t → Steps p.tables e below (s₁.setTop (entryFrame m #[(.int x1), (.int x2)] 2)) t := by
    intro t k
    refine pre0 _ ?_
    show Steps p.tables e below (s₁.setTop (mkF m 0 #[.val (.int x1), .val (.int x2)] [])) _
    refine XS.iloadN X0.here hx rfl (hb hby own_d1_0) rfl ?_
    show Steps p.tables e below (s₁.setTop (mkF m 1 #[.val (.int x1), .val (.int x2)] [(.int x1)])) _
    refine XS.iloadN X0.here hx rfl (hb hby own_d1_1) rfl ?_
    exact k
  by_cases hc2 : x1 < x2
  · obtain ⟨fs, hr, hrun, hended, hW, hsame⟩ := X0.leave (v := some (.int x2)) (fun h => by rw [Bd.returns] at h; cases h)
    have ev2 : (own_max x1 x2) = x2 := by
      simp [own_max, hc2]
    refine ⟨_, _, pre1 _ ?_, hrun, hended, _, _, rfl, ?_, ⟨_, rfl⟩, hW, hsame.mono (by decide) (by decide)⟩
    · show Steps p.tables e below (s₁.setTop (mkF m 2 #[.val (.int x1), .val (.int x2)] [(.int x2), (.int x1)])) _
      refine XS.icmpYes X0.here hx rfl (pc0 := 2) (pc' := 9) rfl (hb hby own_d1_2) rfl (tlt hc2).1 (by decide) (by decide) ?_
      show Steps p.tables e below (s₁.setTop (mkF m 9 #[.val (.int x1), .val (.int x2)] [])) _
      refine XS.iloadN X0.here hx rfl (hb hby own_d1_9) rfl ?_
      show Steps p.tables e below (s₁.setTop (mkF m 10 #[.val (.int x1), .val (.int x2)] [(.int x2)])) _
      exact retI X0 hx Bd.returns (hb hby own_d1_10) hr
    · show own_Q1 Z x1 x2 h0 n0 _ s₁.heap _
      rw [e0]
      exact ⟨(by rw [ev2]), N0, rfl⟩
  · obtain ⟨fs, hr, hrun, hended, hW, hsame⟩ := X0.leave (v := some (.int x1)) (fun h => by rw [Bd.returns] at h; cases h)
    have ev3 : (own_max x1 x2) = x1 := by
      simp [own_max, hc2]
    refine ⟨_, _, pre1 _ ?_, hrun, hended, _, _, rfl, ?_, ⟨_, rfl⟩, hW, hsame.mono (by decide) (by decide)⟩
    · show Steps p.tables e below (s₁.setTop (mkF m 2 #[.val (.int x1), .val (.int x2)] [(.int x2), (.int x1)])) _
      refine XS.icmpNo X0.here hx rfl (hb hby own_d1_2) rfl (flt hc2).1 ?_
      show Steps p.tables e below (s₁.setTop (mkF m 5 #[.val (.int x1), .val (.int x2)] [])) _
      refine XS.iloadN X0.here hx rfl (hb hby own_d1_5) rfl ?_
      show Steps p.tables e below (s₁.setTop (mkF m 6 #[.val (.int x1), .val (.int x2)] [(.int x1)])) _
      refine XS.goto X0.here hx rfl (pc0 := 6) (pc' := 10) rfl (hb hby own_d1_6) (by decide) (by decide) ?_
      show Steps p.tables e below (s₁.setTop (mkF m 10 #[.val (.int x1), .val (.int x2)] [(.int x1)])) _
      exact retI X0 hx Bd.returns (hb hby own_d1_10) hr
    · show own_Q1 Z x1 x2 h0 n0 _ s₁.heap _
      rw [e0]
      exact ⟨(by rw [ev3]), N0, rfl⟩
theorem own_d2_0 : decode jdk_29_method_66_code 0 = .ok (.lload_n 0, 1) := by decide +kernel
theorem own_d2_1 : decode jdk_29_method_66_code 1 = .ok (.lload_n 2, 1) := by decide +kernel
theorem own_d2_2 : decode jdk_29_method_66_code 2 = .ok (.lcmp, 1) := by decide +kernel
theorem own_d2_3 : decode jdk_29_method_66_code 3 = .ok (.ifCond .lt 7, 3) := by decide +kernel
theorem own_d2_6 : decode jdk_29_method_66_code 6 = .ok (.lload_n 0, 1) := by decide +kernel
theorem own_d2_7 : decode jdk_29_method_66_code 7 = .ok (.goto 4, 3) := by decide +kernel
theorem own_d2_10 : decode jdk_29_method_66_code 10 = .ok (.lload_n 2, 1) := by decide +kernel
theorem own_d2_11 : decode jdk_29_method_66_code 11 = .ok (.lreturn, 1) := by decide +kernel
def own_Q2 (Z : State) (x1 : Int64) (x2 : Int64) (h0 : Heap) (n0 : Nat) (v : Option Value) (h : Heap) (L : List Loc) : Prop := v = some (.long (own_maxL x1 x2)) ∧ Fr n0 L ∧ h = h0
theorem own_ef2 (m : MethodId) (x1 : Int64) (x2 : Int64) : entryFrame m #[(.long x1), (.long x2)] 4 = mkF m 0 #[.val (.long x1), .second, .val (.long x2), .second] [] := by first | (simp [entryFrame, mkF, argsToLocals, Value.category]; done) | rfl
set_option maxRecDepth 65536 in
set_option maxHeartbeats 40000000 in
theorem own_rm2 (l : Launch) (Z : State) (a0 : Array Value) (hw : ∀ d ∈ tables_1, d.before a0 Z = true) (ws : List Jvm.Cond) (x1 : Int64) (x2 : Int64) (h0 : Heap) (n0 : Nat) (Z0 : n0 ≤ h0.size)  :
    MetFree l (⟨"java/lang/Math", "max", "(JJ)J"⟩ : MethodName) (head1 (Jvm.Cond.code (⟨"java/lang/Math", "max", "(JJ)J"⟩ : MethodName) jdk_29_method_66_code 4 (some .long) :: ws) ({ frames := 0, cells := 0, slots := 0, locals := 0 } : Room)) (fun a U => a = #[(.long x1), (.long x2)] ∧ Z.Warmed39 U.vm ∧ U.heap = h0) (fun _ _ _ _ _ => True) (fun _ U o U' => ∃ v L, o = .returned v ∧ own_Q2 Z x1 x2 h0 n0 v U'.heap L ∧ FrameEnd U o U' L ({ frames := 0, cells := 0, slots := 0, locals := 0 } : Room).cells ({ frames := 0, cells := 0, slots := 0, locals := 0 } : Room).slots) := by
  refine MetFree.of_bodySF (Jvm.Free.JP.mathPlain rfl (by decide +kernel)) hisR ?_
  intro p e s m args below meth c s₁ Bd hml0 hP hK
  obtain ⟨rfl, hZ, hh⟩ := hP
  have hx := Bd.exec
  have hby := Bd.bytes
  have hml : c.maxLocals = 4 := hml0
  have hown : s.vm.findClass "java/lang/Math" = some m.cls := findClass_of_methodNamed Bd.named
  have hnm := (name_of_methodNamed Bd.named Bd.method).1
  have X0 : Stand p l e ({ frames := 0, cells := 0, slots := 0, locals := 0 } : Room) s m #[(.long x1), (.long x2)] below meth c s₁ [] 0 0 := Stand.of_body Bd
  have e0 : s₁.heap = h0 := by rw [← hh, Bd.state]; rfl
  have N0 := Fr.nil n0
  have pre0 : ∀ t, Steps p.tables e below (s₁.setTop (mkF m 0 #[.val (.long x1), .second, .val (.long x2), .second] [])) t → Steps p.tables e below (s₁.setTop (entryFrame m #[(.long x1), (.long x2)] 4)) t := fun t k => castTop (own_ef2 m x1 x2) k
  have pre1 : ∀ t, Steps p.tables e below (s₁.setTop (mkF m 3 #[.val (.long x1), .second, .val (.long x2), .second] [(.int (lcmpW x1 x2))])) t → Steps p.tables e below (s₁.setTop (entryFrame m #[(.long x1), (.long x2)] 4)) t := by
    intro t k
    refine pre0 _ ?_
    show Steps p.tables e below (s₁.setTop (mkF m 0 #[.val (.long x1), .second, .val (.long x2), .second] [])) _
    refine XS.lloadN X0.here hx rfl (hb hby own_d2_0) rfl ?_
    show Steps p.tables e below (s₁.setTop (mkF m 1 #[.val (.long x1), .second, .val (.long x2), .second] [(.long x1)])) _
    refine XS.lloadN X0.here hx rfl (hb hby own_d2_1) rfl ?_
    show Steps p.tables e below (s₁.setTop (mkF m 2 #[.val (.long x1), .second, .val (.long x2), .second] [(.long x2), (.long x1)])) _
    refine XS.lcmp X0.here hx rfl (hb hby own_d2_2) rfl ?_
    exact k
  by_cases hc3 : x1 < x2
  · obtain ⟨fs, hr, hrun, hended, hW, hsame⟩ := X0.leave (v := some (.long x2)) (fun h => by rw [Bd.returns] at h; cases h)
    have ev2 : (own_maxL x1 x2) = x2 := by
      simp [own_maxL, hc3]
    refine ⟨_, _, pre1 _ ?_, hrun, hended, _, _, rfl, ?_, ⟨_, rfl⟩, hW, hsame.mono (by decide) (by decide)⟩
    · show Steps p.tables e below (s₁.setTop (mkF m 3 #[.val (.long x1), .second, .val (.long x2), .second] [(.int (lcmpW x1 x2))])) _
      refine XS.ifYes X0.here hx rfl (pc0 := 3) (pc' := 10) rfl (hb hby own_d2_3) rfl ((if0 _ _).trans (tlt ((lw_lt x1 x2).mpr hc3)).1) (by decide) (by decide) ?_
      show Steps p.tables e below (s₁.setTop (mkF m 10 #[.val (.long x1), .second, .val (.long x2), .second] [])) _
      refine XS.lloadN X0.here hx rfl (hb hby own_d2_10) rfl ?_
      show Steps p.tables e below (s₁.setTop (mkF m 11 #[.val (.long x1), .second, .val (.long x2), .second] [(.long x2)])) _
      exact retJ X0 hx Bd.returns (hb hby own_d2_11) hr
    · show own_Q2 Z x1 x2 h0 n0 _ s₁.heap _
      rw [e0]
      exact ⟨(by rw [ev2]), N0, rfl⟩
  · obtain ⟨fs, hr, hrun, hended, hW, hsame⟩ := X0.leave (v := some (.long x1)) (fun h => by rw [Bd.returns] at h; cases h)
    have ev3 : (own_maxL x1 x2) = x1 := by
      simp [own_maxL, hc3]
    refine ⟨_, _, pre1 _ ?_, hrun, hended, _, _, rfl, ?_, ⟨_, rfl⟩, hW, hsame.mono (by decide) (by decide)⟩
    · show Steps p.tables e below (s₁.setTop (mkF m 3 #[.val (.long x1), .second, .val (.long x2), .second] [(.int (lcmpW x1 x2))])) _
      refine XS.ifNo X0.here hx rfl (hb hby own_d2_3) rfl ((if0 _ _).trans (flt (fun z => hc3 ((lw_lt x1 x2).mp z))).1) ?_
      show Steps p.tables e below (s₁.setTop (mkF m 6 #[.val (.long x1), .second, .val (.long x2), .second] [])) _
      refine XS.lloadN X0.here hx rfl (hb hby own_d2_6) rfl ?_
      show Steps p.tables e below (s₁.setTop (mkF m 7 #[.val (.long x1), .second, .val (.long x2), .second] [(.long x1)])) _
      refine XS.goto X0.here hx rfl (pc0 := 7) (pc' := 11) rfl (hb hby own_d2_7) (by decide) (by decide) ?_
      show Steps p.tables e below (s₁.setTop (mkF m 11 #[.val (.long x1), .second, .val (.long x2), .second] [(.long x1)])) _
      exact retJ X0 hx Bd.returns (hb hby own_d2_11) hr
    · show own_Q2 Z x1 x2 h0 n0 _ s₁.heap _
      rw [e0]
      exact ⟨(by rw [ev3]), N0, rfl⟩
theorem own_d13_0 : decode jdk_29_method_70_code 0 = .ok (.lload_n 0, 1) := by decide +kernel
theorem own_d13_1 : decode jdk_29_method_70_code 1 = .ok (.lload_n 2, 1) := by decide +kernel
theorem own_d13_2 : decode jdk_29_method_70_code 2 = .ok (.lcmp, 1) := by decide +kernel
theorem own_d13_3 : decode jdk_29_method_70_code 3 = .ok (.ifCond .gt 7, 3) := by decide +kernel
theorem own_d13_6 : decode jdk_29_method_70_code 6 = .ok (.lload_n 0, 1) := by decide +kernel
theorem own_d13_7 : decode jdk_29_method_70_code 7 = .ok (.goto 4, 3) := by decide +kernel
theorem own_d13_10 : decode jdk_29_method_70_code 10 = .ok (.lload_n 2, 1) := by decide +kernel
theorem own_d13_11 : decode jdk_29_method_70_code 11 = .ok (.lreturn, 1) := by decide +kernel
def own_Q13 (Z : State) (x1 : Int64) (x2 : Int64) (h0 : Heap) (n0 : Nat) (v : Option Value) (h : Heap) (L : List Loc) : Prop := v = some (.long (own_minL x1 x2)) ∧ Fr n0 L ∧ h = h0
theorem own_ef13 (m : MethodId) (x1 : Int64) (x2 : Int64) : entryFrame m #[(.long x1), (.long x2)] 4 = mkF m 0 #[.val (.long x1), .second, .val (.long x2), .second] [] := by first | (simp [entryFrame, mkF, argsToLocals, Value.category]; done) | rfl
set_option maxRecDepth 65536 in
set_option maxHeartbeats 40000000 in
theorem own_rm13 (l : Launch) (Z : State) (a0 : Array Value) (hw : ∀ d ∈ tables_1, d.before a0 Z = true) (ws : List Jvm.Cond) (x1 : Int64) (x2 : Int64) (h0 : Heap) (n0 : Nat) (Z0 : n0 ≤ h0.size)  :
    MetFree l (⟨"java/lang/Math", "min", "(JJ)J"⟩ : MethodName) (head1 (Jvm.Cond.code (⟨"java/lang/Math", "min", "(JJ)J"⟩ : MethodName) jdk_29_method_70_code 4 (some .long) :: ws) ({ frames := 0, cells := 0, slots := 0, locals := 0 } : Room)) (fun a U => a = #[(.long x1), (.long x2)] ∧ Z.Warmed39 U.vm ∧ U.heap = h0) (fun _ _ _ _ _ => True) (fun _ U o U' => ∃ v L, o = .returned v ∧ own_Q13 Z x1 x2 h0 n0 v U'.heap L ∧ FrameEnd U o U' L ({ frames := 0, cells := 0, slots := 0, locals := 0 } : Room).cells ({ frames := 0, cells := 0, slots := 0, locals := 0 } : Room).slots) := by
  refine MetFree.of_bodySF (Jvm.Free.JP.mathPlain rfl (by decide +kernel)) hisR ?_
  intro p e s m args below meth c s₁ Bd hml0 hP hK
  obtain ⟨rfl, hZ, hh⟩ := hP
  have hx := Bd.exec
  have hby := Bd.bytes
  have hml : c.maxLocals = 4 := hml0
  have hown : s.vm.findClass "java/lang/Math" = some m.cls := findClass_of_methodNamed Bd.named
  have hnm := (name_of_methodNamed Bd.named Bd.method).1
  have X0 : Stand p l e ({ frames := 0, cells := 0, slots := 0, locals := 0 } : Room) s m #[(.long x1), (.long x2)] below meth c s₁ [] 0 0 := Stand.of_body Bd
  have e0 : s₁.heap = h0 := by rw [← hh, Bd.state]; rfl
  have N0 := Fr.nil n0
  have pre0 : ∀ t, Steps p.tables e below (s₁.setTop (mkF m 0 #[.val (.long x1), .second, .val (.long x2), .second] [])) t → Steps p.tables e below (s₁.setTop (entryFrame m #[(.long x1), (.long x2)] 4)) t := fun t k => castTop (own_ef13 m x1 x2) k
  have pre1 : ∀ t, Steps p.tables e below (s₁.setTop (mkF m 3 #[.val (.long x1), .second, .val (.long x2), .second] [(.int (lcmpW x1 x2))])) t → Steps p.tables e below (s₁.setTop (entryFrame m #[(.long x1), (.long x2)] 4)) t := by
    intro t k
    refine pre0 _ ?_
    show Steps p.tables e below (s₁.setTop (mkF m 0 #[.val (.long x1), .second, .val (.long x2), .second] [])) _
    refine XS.lloadN X0.here hx rfl (hb hby own_d13_0) rfl ?_
    show Steps p.tables e below (s₁.setTop (mkF m 1 #[.val (.long x1), .second, .val (.long x2), .second] [(.long x1)])) _
    refine XS.lloadN X0.here hx rfl (hb hby own_d13_1) rfl ?_
    show Steps p.tables e below (s₁.setTop (mkF m 2 #[.val (.long x1), .second, .val (.long x2), .second] [(.long x2), (.long x1)])) _
    refine XS.lcmp X0.here hx rfl (hb hby own_d13_2) rfl ?_
    exact k
  by_cases hc3 : x2 < x1
  · obtain ⟨fs, hr, hrun, hended, hW, hsame⟩ := X0.leave (v := some (.long x2)) (fun h => by rw [Bd.returns] at h; cases h)
    have ev2 : (own_minL x1 x2) = x2 := by
      simp [own_minL, hc3]
    refine ⟨_, _, pre1 _ ?_, hrun, hended, _, _, rfl, ?_, ⟨_, rfl⟩, hW, hsame.mono (by decide) (by decide)⟩
    · show Steps p.tables e below (s₁.setTop (mkF m 3 #[.val (.long x1), .second, .val (.long x2), .second] [(.int (lcmpW x1 x2))])) _
      refine XS.ifYes X0.here hx rfl (pc0 := 3) (pc' := 10) rfl (hb hby own_d13_3) rfl ((if0 _ _).trans (tlt ((lw_gt x1 x2).mpr hc3)).2.2.1) (by decide) (by decide) ?_
      show Steps p.tables e below (s₁.setTop (mkF m 10 #[.val (.long x1), .second, .val (.long x2), .second] [])) _
      refine XS.lloadN X0.here hx rfl (hb hby own_d13_10) rfl ?_
      show Steps p.tables e below (s₁.setTop (mkF m 11 #[.val (.long x1), .second, .val (.long x2), .second] [(.long x2)])) _
      exact retJ X0 hx Bd.returns (hb hby own_d13_11) hr
    · show own_Q13 Z x1 x2 h0 n0 _ s₁.heap _
      rw [e0]
      exact ⟨(by rw [ev2]), N0, rfl⟩
  · obtain ⟨fs, hr, hrun, hended, hW, hsame⟩ := X0.leave (v := some (.long x1)) (fun h => by rw [Bd.returns] at h; cases h)
    have ev3 : (own_minL x1 x2) = x1 := by
      simp [own_minL, hc3]
    refine ⟨_, _, pre1 _ ?_, hrun, hended, _, _, rfl, ?_, ⟨_, rfl⟩, hW, hsame.mono (by decide) (by decide)⟩
    · show Steps p.tables e below (s₁.setTop (mkF m 3 #[.val (.long x1), .second, .val (.long x2), .second] [(.int (lcmpW x1 x2))])) _
      refine XS.ifNo X0.here hx rfl (hb hby own_d13_3) rfl ((if0 _ _).trans (flt (fun z => hc3 ((lw_gt x1 x2).mp z))).2.2.1) ?_
      show Steps p.tables e below (s₁.setTop (mkF m 6 #[.val (.long x1), .second, .val (.long x2), .second] [])) _
      refine XS.lloadN X0.here hx rfl (hb hby own_d13_6) rfl ?_
      show Steps p.tables e below (s₁.setTop (mkF m 7 #[.val (.long x1), .second, .val (.long x2), .second] [(.long x1)])) _
      refine XS.goto X0.here hx rfl (pc0 := 7) (pc' := 11) rfl (hb hby own_d13_7) (by decide) (by decide) ?_
      show Steps p.tables e below (s₁.setTop (mkF m 11 #[.val (.long x1), .second, .val (.long x2), .second] [(.long x1)])) _
      exact retJ X0 hx Bd.returns (hb hby own_d13_11) hr
    · show own_Q13 Z x1 x2 h0 n0 _ s₁.heap _
      rw [e0]
      exact ⟨(by rw [ev3]), N0, rfl⟩
theorem own_pn1 : plainName "com/example/tracebook/tracebook/model/Paging" = true := by first | (simp [plainName, overriddenIn]; done) | decide +kernel
theorem own_pd0 : parseMethodDescriptor "()V" = some ⟨[], none⟩ := by decide +kernel
theorem own_d3_0 : decode prog_14_method_1_code 0 = .ok (.aload_n 0, 1) := by decide +kernel
theorem own_d3_1 : decode prog_14_method_1_code 1 = .ok (.invokespecial 1, 3) := by decide +kernel
theorem own_d3_4 : decode prog_14_method_1_code 4 = .ok (.aload_n 0, 1) := by decide +kernel
theorem own_d3_5 : decode prog_14_method_1_code 5 = .ok (.aload_n 1, 1) := by decide +kernel
theorem own_d3_6 : decode prog_14_method_1_code 6 = .ok (.putfield 7, 3) := by decide +kernel
theorem own_d3_9 : decode prog_14_method_1_code 9 = .ok (.aload_n 0, 1) := by decide +kernel
theorem own_d3_10 : decode prog_14_method_1_code 10 = .ok (.iload_n 2, 1) := by decide +kernel
theorem own_d3_11 : decode prog_14_method_1_code 11 = .ok (.putfield 13, 3) := by decide +kernel
theorem own_d3_14 : decode prog_14_method_1_code 14 = .ok (.aload_n 0, 1) := by decide +kernel
theorem own_d3_15 : decode prog_14_method_1_code 15 = .ok (.iload_n 3, 1) := by decide +kernel
theorem own_d3_16 : decode prog_14_method_1_code 16 = .ok (.putfield 17, 3) := by decide +kernel
theorem own_d3_19 : decode prog_14_method_1_code 19 = .ok (.aload_n 0, 1) := by decide +kernel
theorem own_d3_20 : decode prog_14_method_1_code 20 = .ok (.lload 4, 2) := by decide +kernel
theorem own_d3_22 : decode prog_14_method_1_code 22 = .ok (.putfield 21, 3) := by decide +kernel
theorem own_d3_25 : decode prog_14_method_1_code 25 = .ok (.aload_n 0, 1) := by decide +kernel
theorem own_d3_26 : decode prog_14_method_1_code 26 = .ok (.lload 6, 2) := by decide +kernel
theorem own_d3_28 : decode prog_14_method_1_code 28 = .ok (.putfield 25, 3) := by decide +kernel
theorem own_d3_31 : decode prog_14_method_1_code 31 = .ok (.return_, 1) := by decide +kernel
def own_Q3 (Z : State) (xthis : Addr) (xty : Addr) (xnf : Int32) (xsz : Int32) (xix : Int64) (xti : Int64) (h0 : Heap) (n0 : Nat) (v : Option Value) (h : Heap) (L : List Loc) : Prop := v = none ∧ Fr n0 L ∧ Keep h0 h [xthis] ∧ Exa Z h xthis "com/example/tracebook/tracebook/model/Paging" ∧ Fld Z h xthis "com/example/tracebook/tracebook/model/Paging" "type" "Lcom/example/tracebook/tracebook/model/Paging$Type;" (.ref xty) ∧ Fld Z h xthis "com/example/tracebook/tracebook/model/Paging" "newestFirst" "Z" (.int (xnf &&& 1)) ∧ Fld Z h xthis "com/example/tracebook/tracebook/model/Paging" "pageSize" "I" (.int xsz) ∧ Fld Z h xthis "com/example/tracebook/tracebook/model/Paging" "pageIndex" "J" (.long xix) ∧ Fld Z h xthis "com/example/tracebook/tracebook/model/Paging" "recordTime" "J" (.long xti)
theorem own_ef3 (m : MethodId) (xthis : Addr) (xty : Addr) (xnf : Int32) (xsz : Int32) (xix : Int64) (xti : Int64) : entryFrame m #[(.ref xthis), (.ref xty), (.int xnf), (.int xsz), (.long xix), (.long xti)] 8 = mkF m 0 #[.val (.ref xthis), .val (.ref xty), .val (.int xnf), .val (.int xsz), .val (.long xix), .second, .val (.long xti), .second] [] := by first | (simp [entryFrame, mkF, argsToLocals, Value.category]; done) | rfl
set_option maxRecDepth 65536 in
set_option maxHeartbeats 40000000 in
theorem own_rm3 (l : Launch) (Z : State) (a0 : Array Value) (hw : ∀ d ∈ tables_1, d.before a0 Z = true) (ws : List Jvm.Cond) (xthis : Addr) (xty : Addr) (xnf : Int32) (xsz : Int32) (xix : Int64) (xti : Int64) (h0 : Heap) (n0 : Nat) (Z0 : n0 ≤ h0.size) (E_xthis : Exa Z h0 xthis "com/example/tracebook/tracebook/model/Paging") (F_type_xthis : Fld Z h0 xthis "com/example/tracebook/tracebook/model/Paging" "type" "Lcom/example/tracebook/tracebook/model/Paging$Type;" .null) (F_newestFirst_xthis : Fld Z h0 xthis "com/example/tracebook/tracebook/model/Paging" "newestFirst" "Z" (.int (0 : Int32))) (F_pageSize_xthis : Fld Z h0 xthis "com/example/tracebook/tracebook/model/Paging" "pageSize" "I" (.int (0 : Int32))) (F_pageIndex_xthis : Fld Z h0 xthis "com/example/tracebook/tracebook/model/Paging" "pageIndex" "J" (.long (0 : Int64))) (F_recordTime_xthis : Fld Z h0 xthis "com/example/tracebook/tracebook/model/Paging" "recordTime" "J" (.long (0 : Int64))) (g_xthis : n0 ≤ xthis) :
    MetFree l (⟨"com/example/tracebook/tracebook/model/Paging", "<init>", "(Lcom/example/tracebook/tracebook/model/Paging$Type;ZIJJ)V"⟩ : MethodName) (head1 (Jvm.Cond.code (⟨"com/example/tracebook/tracebook/model/Paging", "<init>", "(Lcom/example/tracebook/tracebook/model/Paging$Type;ZIJJ)V"⟩ : MethodName) prog_14_method_1_code 8 none :: ws) ({ frames := 2, cells := 0, slots := 0, locals := 24 } : Room)) (fun a U => a = #[(.ref xthis), (.ref xty), (.int xnf), (.int xsz), (.long xix), (.long xti)] ∧ Z.Warmed39 U.vm ∧ U.heap = h0) (fun _ _ _ _ _ => True) (fun _ U o U' => ∃ v L, o = .returned v ∧ own_Q3 Z xthis xty xnf xsz xix xti h0 n0 v U'.heap L ∧ FrameEnd U o U' L ({ frames := 2, cells := 0, slots := 0, locals := 24 } : Room).cells ({ frames := 2, cells := 0, slots := 0, locals := 24 } : Room).slots) := by
  refine MetFree.of_bodySF (plainFor_of_name own_pn1) hisR ?_
  intro p e s m args below meth c s₁ Bd hml0 hP hK
  obtain ⟨rfl, hZ, hh⟩ := hP
  have hx := Bd.exec
  have hby := Bd.bytes
  have hml : c.maxLocals = 8 := hml0
  have hown : s.vm.findClass "com/example/tracebook/tracebook/model/Paging" = some m.cls := findClass_of_methodNamed Bd.named
  have hnm := (name_of_methodNamed Bd.named Bd.method).1
  have X0 : Stand p l e ({ frames := 2, cells := 0, slots := 0, locals := 24 } : Room) s m #[(.ref xthis), (.ref xty), (.int xnf), (.int xsz), (.long xix), (.long xti)] below meth c s₁ [] 0 0 := Stand.of_body Bd
  have e0 : s₁.heap = h0 := by rw [← hh, Bd.state]; rfl
  have N0 := Fr.nil n0
  have pre0 : ∀ t, Steps p.tables e below (s₁.setTop (mkF m 0 #[.val (.ref xthis), .val (.ref xty), .val (.int xnf), .val (.int xsz), .val (.long xix), .second, .val (.long xti), .second] [])) t → Steps p.tables e below (s₁.setTop (entryFrame m #[(.ref xthis), (.ref xty), (.int xnf), (.int xsz), (.long xix), (.long xti)] 8)) t := fun t k => castTop (own_ef3 m xthis xty xnf xsz xix xti) k
  have K0 : Keep h0 h0 [xthis] := Keep.refl _ _
  obtain ⟨_, _, ⟨T1, L1, k1, n1⟩, -, X1, ⟨Lc1, hQ1, l1, y1, z1⟩, st1⟩ := X0.specialBack hx (y := (⟨"java/lang/Record", "<init>", "()V"⟩ : MethodName)) rfl hown (mvT hZ (hw _ (List.mem_of_getElem? (i := 18) rfl))) (mvT hZ (hw _ (List.mem_of_getElem? (i := 19) rfl))) (mvT hZ (hw _ (List.mem_of_getElem? (i := 22) rfl))) (by decide) (backOf (W := 0) (own_rm4 l Z a0 hw [] xthis h0 n0 Z0 ) hZ (hw _ (List.mem_of_getElem? (i := 22) rfl)) (hw _ (List.mem_of_getElem? (i := 21) rfl)) (by decide) (by decide)) (g := (mkF m 1 #[.val (.ref xthis), .val (.ref xty), .val (.int xnf), .val (.int xsz), .val (.long xix), .second, .val (.long xti), .second] [(.ref xthis)])) rfl (by rw [hml]; rfl) (Steps.refl _) (a := xthis) (argsL := []) (rest := []) (lenOf own_pd0 rfl) rfl (by show 2 * 0 + _ ≤ _; exact Nat.le_of_eq rfl) (hb hby own_d3_1) (fun _ _ => ⟨rfl, e0, (by decide : 0 + 0 ≤ _), (by decide : 0 + 0 ≤ _)⟩)
  dsimp only [Pt.U, Pt.locs, Pt.cells, Pt.slots] at X1 l1 y1 z1 st1 hQ1
  subst l1 y1 z1
  obtain ⟨rfl, N1q, eh1⟩ := hQ1
  have N1 := Fr.app N0 N1q
  obtain ⟨T2, h2, X2, e2, W2, st2⟩ := putF X1 hx hZ hown (host := "") (Or.inl (hw _ (List.mem_of_getElem? (i := 26) rfl))) Via.refl eh1 F_type_xthis E_xthis (Or.inr ⟨(hw _ (List.mem_of_getElem? (i := 27) rfl)), rfl, hnm⟩) (hw _ (List.mem_of_getElem? (i := 10) rfl)) (ty := (.object "com/example/tracebook/tracebook/model/Paging$Type")) (by decide) rfl rfl (g := (mkF m 6 #[.val (.ref xthis), .val (.ref xty), .val (.int xnf), .val (.int xsz), .val (.long xix), .second, .val (.long xti), .second] [(.ref xty), (.ref xthis)])) rfl rfl (hb hby own_d3_6)
  have F3 : Fld Z h2 xthis "com/example/tracebook/tracebook/model/Paging" "type" "Lcom/example/tracebook/tracebook/model/Paging$Type;" (.ref xty) := F_type_xthis.same W2
  have F4 : Exa Z h2 xthis "com/example/tracebook/tracebook/model/Paging" := E_xthis.wr W2
  have F5 : Fld Z h2 xthis "com/example/tracebook/tracebook/model/Paging" "newestFirst" "Z" (.int (0 : Int32)) := F_newestFirst_xthis.other W2 (Or.inr (slot_ne (Or.inr (hw _ (List.mem_of_getElem? (i := 29) rfl))) (Or.inr (hw _ (List.mem_of_getElem? (i := 27) rfl))) (by decide) (t := .boolean) (t' := (.object "com/example/tracebook/tracebook/model/Paging$Type")) (by decide) (by decide)))
  have F6 : Fld Z h2 xthis "com/example/tracebook/tracebook/model/Paging" "pageSize" "I" (.int (0 : Int32)) := F_pageSize_xthis.other W2 (Or.inr (slot_ne (Or.inr (hw _ (List.mem_of_getElem? (i := 31) rfl))) (Or.inr (hw _ (List.mem_of_getElem? (i := 27) rfl))) (by decide) (t := .int) (t' := (.object "com/example/tracebook/tracebook/model/Paging$Type")) (by decide) (by decide)))
  have F7 : Fld Z h2 xthis "com/example/tracebook/tracebook/model/Paging" "pageIndex" "J" (.long (0 : Int64)) := F_pageIndex_xthis.other W2 (Or.inr (slot_ne (Or.inr (hw _ (List.mem_of_getElem? (i := 33) rfl))) (Or.inr (hw _ (List.mem_of_getElem? (i := 27) rfl))) (by decide) (t := .long) (t' := (.object "com/example/tracebook/tracebook/model/Paging$Type")) (by decide) (by decide)))
  have F8 : Fld Z h2 xthis "com/example/tracebook/tracebook/model/Paging" "recordTime" "J" (.long (0 : Int64)) := F_recordTime_xthis.other W2 (Or.inr (slot_ne (Or.inr (hw _ (List.mem_of_getElem? (i := 35) rfl))) (Or.inr (hw _ (List.mem_of_getElem? (i := 27) rfl))) (by decide) (t := .long) (t' := (.object "com/example/tracebook/tracebook/model/Paging$Type")) (by decide) (by decide)))
  have N2 := Fr.snoc X2 N1 g_xthis
  have Z2 : n0 ≤ h2.size := Nat.le_trans Z0 (Keep.of_wr W2).1
  have K2 : Keep h0 h2 [xthis] := K0.wr W2 (Or.inl (List.mem_of_getElem? (i := 0) rfl))
  obtain ⟨T9, h9, X9, e9, W9, st9⟩ := putFN X2 hx hZ hown (hw _ (List.mem_of_getElem? (i := 28) rfl)) Via.refl e2 F5 F4 (Or.inr ⟨(hw _ (List.mem_of_getElem? (i := 29) rfl)), rfl, hnm⟩) (hw _ (List.mem_of_getElem? (i := 10) rfl)) (ty := .boolean) (v' := (.int (xnf &&& 1))) (by decide) rfl (fits_nar_bool _) (g := (mkF m 11 #[.val (.ref xthis), .val (.ref xty), .val (.int xnf), .val (.int xsz), .val (.long xix), .second, .val (.long xti), .second] [(.int xnf), (.ref xthis)])) rfl rfl (hb hby own_d3_11)
  have F10 : Fld Z h9 xthis "com/example/tracebook/tracebook/model/Paging" "newestFirst" "Z" (.int (xnf &&& 1)) := F5.same W9
  have F11 : Exa Z h9 xthis "com/example/tracebook/tracebook/model/Paging" := F4.wr W9
  have F12 : Fld Z h9 xthis "com/example/tracebook/tracebook/model/Paging" "pageSize" "I" (.int (0 : Int32)) := F6.other W9 (Or.inr (slot_ne (Or.inr (hw _ (List.mem_of_getElem? (i := 31) rfl))) (Or.inr (hw _ (List.mem_of_getElem? (i := 29) rfl))) (by decide) (t := .int) (t' := .boolean) (by decide) (by decide)))
  have F13 : Fld Z h9 xthis "com/example/tracebook/tracebook/model/Paging" "pageIndex" "J" (.long (0 : Int64)) := F7.other W9 (Or.inr (slot_ne (Or.inr (hw _ (List.mem_of_getElem? (i := 33) rfl))) (Or.inr (hw _ (List.mem_of_getElem? (i := 29) rfl))) (by decide) (t := .long) (t' := .boolean) (by decide) (by decide)))
  have F14 : Fld Z h9 xthis "com/example/tracebook/tracebook/model/Paging" "recordTime" "J" (.long (0 : Int64)) := F8.other W9 (Or.inr (slot_ne (Or.inr (hw _ (List.mem_of_getElem? (i := 35) rfl))) (Or.inr (hw _ (List.mem_of_getElem? (i := 29) rfl))) (by decide) (t := .long) (t' := .boolean) (by decide) (by decide)))
  have F15 : Fld Z h9 xthis "com/example/tracebook/tracebook/model/Paging" "type" "Lcom/example/tracebook/tracebook/model/Paging$Type;" (.ref xty) := F3.other W9 (Or.inr (slot_ne (Or.inr (hw _ (List.mem_of_getElem? (i := 27) rfl))) (Or.inr (hw _ (List.mem_of_getElem? (i := 29) rfl))) (by decide) (t := (.object "com/example/tracebook/tracebook/model/Paging$Type")) (t' := .boolean) (by decide) (by decide)))
  have N9 := Fr.snoc X9 N2 g_xthis
  have Z9 : n0 ≤ h9.size := Nat.le_trans Z2 (Keep.of_wr W9).1
  have K9 : Keep h0 h9 [xthis] := K2.wr W9 (Or.inl (List.mem_of_getElem? (i := 0) rfl))
  obtain ⟨T16, h16, X16, e16, W16, st16⟩ := putF X9 hx hZ hown (host := "") (Or.inl (hw _ (List.mem_of_getElem? (i := 30) rfl))) Via.refl e9 F12 F11 (Or.inr ⟨(hw _ (List.mem_of_getElem? (i := 31) rfl)), rfl, hnm⟩) (hw _ (List.mem_of_getElem? (i := 10) rfl)) (ty := .int) (by decide) rfl rfl (g := (mkF m 16 #[.val (.ref xthis), .val (.ref xty), .val (.int xnf), .val (.int xsz), .val (.long xix), .second, .val (.long xti), .second] [(.int xsz), (.ref xthis)])) rfl rfl (hb hby own_d3_16)
  have F17 : Fld Z h16 xthis "com/example/tracebook/tracebook/model/Paging" "pageSize" "I" (.int xsz) := F12.same W16
  have F18 : Exa Z h16 xthis "com/example/tracebook/tracebook/model/Paging" := F11.wr W16
  have F19 : Fld Z h16 xthis "com/example/tracebook/tracebook/model/Paging" "pageIndex" "J" (.long (0 : Int64)) := F13.other W16 (Or.inr (slot_ne (Or.inr (hw _ (List.mem_of_getElem? (i := 33) rfl))) (Or.inr (hw _ (List.mem_of_getElem? (i := 31) rfl))) (by decide) (t := .long) (t' := .int) (by decide) (by decide)))
  have F20 : Fld Z h16 xthis "com/example/tracebook/tracebook/model/Paging" "recordTime" "J" (.long (0 : Int64)) := F14.other W16 (Or.inr (slot_ne (Or.inr (hw _ (List.mem_of_getElem? (i := 35) rfl))) (Or.inr (hw _ (List.mem_of_getElem? (i := 31) rfl))) (by decide) (t := .long) (t' := .int) (by decide) (by decide)))
  have F21 : Fld Z h16 xthis "com/example/tracebook/tracebook/model/Paging" "type" "Lcom/example/tracebook/tracebook/model/Paging$Type;" (.ref xty) := F15.other W16 (Or.inr (slot_ne (Or.inr (hw _ (List.mem_of_getElem? (i := 27) rfl))) (Or.inr (hw _ (List.mem_of_getElem? (i := 31) rfl))) (by decide) (t := (.object "com/example/tracebook/tracebook/model/Paging$Type")) (t' := .int) (by decide) (by decide)))
  have F22 : Fld Z h16 xthis "com/example/tracebook/tracebook/model/Paging" "newestFirst" "Z" (.int (xnf &&& 1)) := F10.other W16 (Or.inr (slot_ne (Or.inr (hw _ (List.mem_of_getElem? (i := 29) rfl))) (Or.inr (hw _ (List.mem_of_getElem? (i := 31) rfl))) (by decide) (t := .boolean) (t' := .int) (by decide) (by decide)))
  have N16 := Fr.snoc X16 N9 g_xthis
  have Z16 : n0 ≤ h16.size := Nat.le_trans Z9 (Keep.of_wr W16).1
  have K16 : Keep h0 h16 [xthis] := K9.wr W16 (Or.inl (List.mem_of_getElem? (i := 0) rfl))
  obtain ⟨T23, h23, X23, e23, W23, st23⟩ := putF X16 hx hZ hown (host := "") (Or.inl (hw _ (List.mem_of_getElem? (i := 32) rfl))) Via.refl e16 F19 F18 (Or.inr ⟨(hw _ (List.mem_of_getElem? (i := 33) rfl)), rfl, hnm⟩) (hw _ (List.mem_of_getElem? (i := 10) rfl)) (ty := .long) (by decide) rfl rfl (g := (mkF m 22 #[.val (.ref xthis), .val (.ref xty), .val (.int xnf), .val (.int xsz), .val (.long xix), .second, .val (.long xti), .second] [(.long xix), (.ref xthis)])) rfl rfl (hb hby own_d3_22)
  have F24 : Fld Z h23 xthis "com/example/tracebook/tracebook/model/Paging" "pageIndex" "J" (.long xix) := F19.same W23
  have F25 : Exa Z h23 xthis "com/example/tracebook/tracebook/model/Paging" := F18.wr W23
  have F26 : Fld Z h23 xthis "com/example/tracebook/tracebook/model/Paging" "recordTime" "J" (.long (0 : Int64)) := F20.other W23 (Or.inr (slot_ne (Or.inr (hw _ (List.mem_of_getElem? (i := 35) rfl))) (Or.inr (hw _ (List.mem_of_getElem? (i := 33) rfl))) (by decide) (t := .long) (t' := .long) (by decide) (by decide)))
  have F27 : Fld Z h23 xthis "com/example/tracebook/tracebook/model/Paging" "type" "Lcom/example/tracebook/tracebook/model/Paging$Type;" (.ref xty) := F21.other W23 (Or.inr (slot_ne (Or.inr (hw _ (List.mem_of_getElem? (i := 27) rfl))) (Or.inr (hw _ (List.mem_of_getElem? (i := 33) rfl))) (by decide) (t := (.object "com/example/tracebook/tracebook/model/Paging$Type")) (t' := .long) (by decide) (by decide)))
  have F28 : Fld Z h23 xthis "com/example/tracebook/tracebook/model/Paging" "newestFirst" "Z" (.int (xnf &&& 1)) := F22.other W23 (Or.inr (slot_ne (Or.inr (hw _ (List.mem_of_getElem? (i := 29) rfl))) (Or.inr (hw _ (List.mem_of_getElem? (i := 33) rfl))) (by decide) (t := .boolean) (t' := .long) (by decide) (by decide)))
  have F29 : Fld Z h23 xthis "com/example/tracebook/tracebook/model/Paging" "pageSize" "I" (.int xsz) := F17.other W23 (Or.inr (slot_ne (Or.inr (hw _ (List.mem_of_getElem? (i := 31) rfl))) (Or.inr (hw _ (List.mem_of_getElem? (i := 33) rfl))) (by decide) (t := .int) (t' := .long) (by decide) (by decide)))
  have N23 := Fr.snoc X23 N16 g_xthis
  have Z23 : n0 ≤ h23.size := Nat.le_trans Z16 (Keep.of_wr W23).1
  have K23 : Keep h0 h23 [xthis] := K16.wr W23 (Or.inl (List.mem_of_getElem? (i := 0) rfl))
  obtain ⟨T30, h30, X30, e30, W30, st30⟩ := putF X23 hx hZ hown (host := "") (Or.inl (hw _ (List.mem_of_getElem? (i := 34) rfl))) Via.refl e23 F26 F25 (Or.inr ⟨(hw _ (List.mem_of_getElem? (i := 35) rfl)), rfl, hnm⟩) (hw _ (List.mem_of_getElem? (i := 10) rfl)) (ty := .long) (by decide) rfl rfl (g := (mkF m 28 #[.val (.ref xthis), .val (.ref xty), .val (.int xnf), .val (.int xsz), .val (.long xix), .second, .val (.long xti), .second] [(.long xti), (.ref xthis)])) rfl rfl (hb hby own_d3_28)
  have F31 : Fld Z h30 xthis "com/example/tracebook/tracebook/model/Paging" "recordTime" "J" (.long xti) := F26.same W30
  have F32 : Exa Z h30 xthis "com/example/tracebook/tracebook/model/Paging" := F25.wr W30
  have F33 : Fld Z h30 xthis "com/example/tracebook/tracebook/model/Paging" "type" "Lcom/example/tracebook/tracebook/model/Paging$Type;" (.ref xty) := F27.other W30 (Or.inr (slot_ne (Or.inr (hw _ (List.mem_of_getElem? (i := 27) rfl))) (Or.inr (hw _ (List.mem_of_getElem? (i := 35) rfl))) (by decide) (t := (.object "com/example/tracebook/tracebook/model/Paging$Type")) (t' := .long) (by decide) (by decide)))
  have F34 : Fld Z h30 xthis "com/example/tracebook/tracebook/model/Paging" "newestFirst" "Z" (.int (xnf &&& 1)) := F28.other W30 (Or.inr (slot_ne (Or.inr (hw _ (List.mem_of_getElem? (i := 29) rfl))) (Or.inr (hw _ (List.mem_of_getElem? (i := 35) rfl))) (by decide) (t := .boolean) (t' := .long) (by decide) (by decide)))
  have F35 : Fld Z h30 xthis "com/example/tracebook/tracebook/model/Paging" "pageSize" "I" (.int xsz) := F29.other W30 (Or.inr (slot_ne (Or.inr (hw _ (List.mem_of_getElem? (i := 31) rfl))) (Or.inr (hw _ (List.mem_of_getElem? (i := 35) rfl))) (by decide) (t := .int) (t' := .long) (by decide) (by decide)))
  have F36 : Fld Z h30 xthis "com/example/tracebook/tracebook/model/Paging" "pageIndex" "J" (.long xix) := F24.other W30 (Or.inr (slot_ne (Or.inr (hw _ (List.mem_of_getElem? (i := 33) rfl))) (Or.inr (hw _ (List.mem_of_getElem? (i := 35) rfl))) (by decide) (t := .long) (t' := .long) (by decide) (by decide)))
  have N30 := Fr.snoc X30 N23 g_xthis
  have Z30 : n0 ≤ h30.size := Nat.le_trans Z23 (Keep.of_wr W30).1
  have K30 : Keep h0 h30 [xthis] := K23.wr W30 (Or.inl (List.mem_of_getElem? (i := 0) rfl))
  obtain ⟨fs, hr, hrun, hended, hW, hsame⟩ := X30.leave (v := none) (fun _ => rfl)
  refine ⟨_, _, pre0 _ ?_, hrun, hended, _, _, rfl, ?_, ⟨_, rfl⟩, hW, hsame.mono (by decide) (by decide)⟩
  · show Steps p.tables e below (s₁.setTop (mkF m 0 #[.val (.ref xthis), .val (.ref xty), .val (.int xnf), .val (.int xsz), .val (.long xix), .second, .val (.long xti), .second] [])) _
    refine XS.aloadN X0.here hx rfl (hb hby own_d3_0) rfl rfl ?_
    show Steps p.tables e below (s₁.setTop (mkF m 1 #[.val (.ref xthis), .val (.ref xty), .val (.int xnf), .val (.int xsz), .val (.long xix), .second, .val (.long xti), .second] [(.ref xthis)])) _
    refine st1.trans ?_
    show Steps p.tables e below (T1.setTop (mkF m 4 #[.val (.ref xthis), .val (.ref xty), .val (.int xnf), .val (.int xsz), .val (.long xix), .second, .val (.long xti), .second] [])) _
    refine XS.aloadN X1.here hx rfl (hb hby own_d3_4) rfl rfl ?_
    show Steps p.tables e below (T1.setTop (mkF m 5 #[.val (.ref xthis), .val (.ref xty), .val (.int xnf), .val (.int xsz), .val (.long xix), .second, .val (.long xti), .second] [(.ref xthis)])) _
    refine XS.aloadN X1.here hx rfl (hb hby own_d3_5) rfl rfl ?_
    show Steps p.tables e below (T1.setTop (mkF m 6 #[.val (.ref xthis), .val (.ref xty), .val (.int xnf), .val (.int xsz), .val (.long xix), .second, .val (.long xti), .second] [(.ref xty), (.ref xthis)])) _
    refine st2 _ ?_
    show Steps p.tables e below (T2.setTop (mkF m 9 #[.val (.ref xthis), .val (.ref xty), .val (.int xnf), .val (.int xsz), .val (.long xix), .second, .val (.long xti), .second] [])) _
    refine XS.aloadN X2.here hx rfl (hb hby own_d3_9) rfl rfl ?_
    show Steps p.tables e below (T2.setTop (mkF m 10 #[.val (.ref xthis), .val (.ref xty), .val (.int xnf), .val (.int xsz), .val (.long xix), .second, .val (.long xti), .second] [(.ref xthis)])) _
    refine XS.iloadN X2.here hx rfl (hb hby own_d3_10) rfl ?_
    show Steps p.tables e below (T2.setTop (mkF m 11 #[.val (.ref xthis), .val (.ref xty), .val (.int xnf), .val (.int xsz), .val (.long xix), .second, .val (.long xti), .second] [(.int xnf), (.ref xthis)])) _
    refine st9 _ ?_
    show Steps p.tables e below (T9.setTop (mkF m 14 #[.val (.ref xthis), .val (.ref xty), .val (.int xnf), .val (.int xsz), .val (.long xix), .second, .val (.long xti), .second] [])) _
    refine XS.aloadN X9.here hx rfl (hb hby own_d3_14) rfl rfl ?_
    show Steps p.tables e below (T9.setTop (mkF m 15 #[.val (.ref xthis), .val (.ref xty), .val (.int xnf), .val (.int xsz), .val (.long xix), .second, .val (.long xti), .second] [(.ref xthis)])) _
    refine XS.iloadN X9.here hx rfl (hb hby own_d3_15) rfl ?_
    show Steps p.tables e below (T9.setTop (mkF m 16 #[.val (.ref xthis), .val (.ref xty), .val (.int xnf), .val (.int xsz), .val (.long xix), .second, .val (.long xti), .second] [(.int xsz), (.ref xthis)])) _
    refine st16 _ ?_
    show Steps p.tables e below (T16.setTop (mkF m 19 #[.val (.ref xthis), .val (.ref xty), .val (.int xnf), .val (.int xsz), .val (.long xix), .second, .val (.long xti), .second] [])) _
    refine XS.aloadN X16.here hx rfl (hb hby own_d3_19) rfl rfl ?_
    show Steps p.tables e below (T16.setTop (mkF m 20 #[.val (.ref xthis), .val (.ref xty), .val (.int xnf), .val (.int xsz), .val (.long xix), .second, .val (.long xti), .second] [(.ref xthis)])) _
    refine XS.lload X16.here hx rfl (hb hby own_d3_20) rfl ?_
    show Steps p.tables e below (T16.setTop (mkF m 22 #[.val (.ref xthis), .val (.ref xty), .val (.int xnf), .val (.int xsz), .val (.long xix), .second, .val (.long xti), .second] [(.long xix), (.ref xthis)])) _
    refine st23 _ ?_
    show Steps p.tables e below (T23.setTop (mkF m 25 #[.val (.ref xthis), .val (.ref xty), .val (.int xnf), .val (.int xsz), .val (.long xix), .second, .val (.long xti), .second] [])) _
    refine XS.aloadN X23.here hx rfl (hb hby own_d3_25) rfl rfl ?_
    show Steps p.tables e below (T23.setTop (mkF m 26 #[.val (.ref xthis), .val (.ref xty), .val (.int xnf), .val (.int xsz), .val (.long xix), .second, .val (.long xti), .second] [(.ref xthis)])) _
    refine XS.lload X23.here hx rfl (hb hby own_d3_26) rfl ?_
    show Steps p.tables e below (T23.setTop (mkF m 28 #[.val (.ref xthis), .val (.ref xty), .val (.int xnf), .val (.int xsz), .val (.long xix), .second, .val (.long xti), .second] [(.long xti), (.ref xthis)])) _
    refine st30 _ ?_
    show Steps p.tables e below (T30.setTop (mkF m 31 #[.val (.ref xthis), .val (.ref xty), .val (.int xnf), .val (.int xsz), .val (.long xix), .second, .val (.long xti), .second] [])) _
    exact X30.returnOut hx Bd.returns (hb hby own_d3_31) hr
  · show own_Q3 Z xthis xty xnf xsz xix xti h0 n0 _ T30.heap _
    rw [e30]
    exact ⟨rfl, N30, K30, F32, F33, F34, F35, F36, F31⟩
theorem own_pn2 : plainName "java/lang/Enum" = true := by first | (simp [plainName, overriddenIn]; done) | decide +kernel
theorem own_d7_0 : decode jdk_37_method_2_code 0 = .ok (.aload_n 0, 1) := by decide +kernel
theorem own_d7_1 : decode jdk_37_method_2_code 1 = .ok (.getfield 7, 3) := by decide +kernel
theorem own_d7_4 : decode jdk_37_method_2_code 4 = .ok (.ireturn, 1) := by decide +kernel
def own_Q7 (Z : State) (xthis : Addr) (xw : Int32) (h0 : Heap) (n0 : Nat) (v : Option Value) (h : Heap) (L : List Loc) : Prop := v = some (.int xw) ∧ Fr n0 L ∧ h = h0
theorem own_ef7 (m : MethodId) (xthis : Addr) : entryFrame m #[(.ref xthis)] 1 = mkF m 0 #[.val (.ref xthis)] [] := by first | (simp [entryFrame, mkF, argsToLocals, Value.category]; done) | rfl
set_option maxRecDepth 65536 in
set_option maxHeartbeats 40000000 in
theorem own_rm7 (l : Launch) (Z : State) (a0 : Array Value) (hw : ∀ d ∈ tables_1, d.before a0 Z = true) (ws : List Jvm.Cond) (xthis : Addr) (xw : Int32) (h0 : Heap) (n0 : Nat) (Z0 : n0 ≤ h0.size) (F_ordinal_xthis : Fld Z h0 xthis "java/lang/Enum" "ordinal" "I" (.int xw)) :
    MetFree l (⟨"java/lang/Enum", "ordinal", "()I"⟩ : MethodName) (head1 (Jvm.Cond.code (⟨"java/lang/Enum", "ordinal", "()I"⟩ : MethodName) jdk_37_method_2_code 1 (some .int) :: ws) ({ frames := 0, cells := 0, slots := 0, locals := 0 } : Room)) (fun a U => a = #[(.ref xthis)] ∧ Z.Warmed39 U.vm ∧ U.heap = h0) (fun _ _ _ _ _ => True) (fun _ U o U' => ∃ v L, o = .returned v ∧ own_Q7 Z xthis xw h0 n0 v U'.heap L ∧ FrameEnd U o U' L ({ frames := 0, cells := 0, slots := 0, locals := 0 } : Room).cells ({ frames := 0, cells := 0, slots := 0, locals := 0 } : Room).slots) := by
  refine MetFree.of_bodySF (plainFor_of_name own_pn2) hisR ?_
  intro p e s m args below meth c s₁ Bd hml0 hP hK
  obtain ⟨rfl, hZ, hh⟩ := hP
  have hx := Bd.exec
  have hby := Bd.bytes
  have hml : c.maxLocals = 1 := hml0
  have hown : s.vm.findClass "java/lang/Enum" = some m.cls := findClass_of_methodNamed Bd.named
  have hnm := (name_of_methodNamed Bd.named Bd.method).1
  have X0 : Stand p l e ({ frames := 0, cells := 0, slots := 0, locals := 0 } : Room) s m #[(.ref xthis)] below meth c s₁ [] 0 0 := Stand.of_body Bd
  have e0 : s₁.heap = h0 := by rw [← hh, Bd.state]; rfl
  have N0 := Fr.nil n0
  have pre0 : ∀ t, Steps p.tables e below (s₁.setTop (mkF m 0 #[.val (.ref xthis)] [])) t → Steps p.tables e below (s₁.setTop (entryFrame m #[(.ref xthis)] 1)) t := fun t k => castTop (own_ef7 m xthis) k
  obtain ⟨T1, X1, e1, st1⟩ := getF X0 hx hZ hown (host := "") (Or.inl (hw _ (List.mem_of_getElem? (i := 48) rfl))) Via.refl e0 F_ordinal_xthis (g := (mkF m 1 #[.val (.ref xthis)] [(.ref xthis)])) rfl rfl (hb hby own_d7_1)
  obtain ⟨fs, hr, hrun, hended, hW, hsame⟩ := X1.leave (v := some (.int xw)) (fun h => by rw [Bd.returns] at h; cases h)
  refine ⟨_, _, pre0 _ ?_, hrun, hended, _, _, rfl, ?_, ⟨_, rfl⟩, hW, hsame.mono (by decide) (by decide)⟩
  · show Steps p.tables e below (s₁.setTop (mkF m 0 #[.val (.ref xthis)] [])) _
    refine XS.aloadN X0.here hx rfl (hb hby own_d7_0) rfl rfl ?_
    show Steps p.tables e below (s₁.setTop (mkF m 1 #[.val (.ref xthis)] [(.ref xthis)])) _
    refine st1 _ ?_
    show Steps p.tables e below (T1.setTop (mkF m 4 #[.val (.ref xthis)] [(.int xw)])) _
    exact retI X1 hx Bd.returns (hb hby own_d7_4) hr
  · show own_Q7 Z xthis xw h0 n0 _ T1.heap _
    rw [e1]
    exact ⟨rfl, N0, rfl⟩
theorem own_pn3 : plainName "com/example/tracebook/tracebook/model/Paging$Walk" = true := by first | (simp [plainName, overriddenIn]; done) | decide +kernel
theorem own_d8_0 : decode prog_17_method_1_code 0 = .ok (.aload_n 0, 1) := by decide +kernel
theorem own_d8_1 : decode prog_17_method_1_code 1 = .ok (.invokespecial 1, 3) := by decide +kernel
theorem own_d8_4 : decode prog_17_method_1_code 4 = .ok (.aload_n 0, 1) := by decide +kernel
theorem own_d8_5 : decode prog_17_method_1_code 5 = .ok (.iload_n 1, 1) := by decide +kernel
theorem own_d8_6 : decode prog_17_method_1_code 6 = .ok (.putfield 7, 3) := by decide +kernel
theorem own_d8_9 : decode prog_17_method_1_code 9 = .ok (.aload_n 0, 1) := by decide +kernel
theorem own_d8_10 : decode prog_17_method_1_code 10 = .ok (.lload_n 2, 1) := by decide +kernel
theorem own_d8_11 : decode prog_17_method_1_code 11 = .ok (.putfield 13, 3) := by decide +kernel
theorem own_d8_14 : decode prog_17_method_1_code 14 = .ok (.aload_n 0, 1) := by decide +kernel
theorem own_d8_15 : decode prog_17_method_1_code 15 = .ok (.lload 4, 2) := by decide +kernel
theorem own_d8_17 : decode prog_17_method_1_code 17 = .ok (.putfield 17, 3) := by decide +kernel
theorem own_d8_20 : decode prog_17_method_1_code 20 = .ok (.aload_n 0, 1) := by decide +kernel
theorem own_d8_21 : decode prog_17_method_1_code 21 = .ok (.iload 6, 2) := by decide +kernel
theorem own_d8_23 : decode prog_17_method_1_code 23 = .ok (.putfield 20, 3) := by decide +kernel
theorem own_d8_26 : decode prog_17_method_1_code 26 = .ok (.return_, 1) := by decide +kernel
def own_Q8_0 (Z : State) (xthis : Addr) (x2 : Int64) (x3 : Int64) (x4 : Int32) (h0 : Heap) (n0 : Nat) (v : Option Value) (h : Heap) (L : List Loc) : Prop := v = none ∧ Fr n0 L ∧ Keep h0 h [xthis] ∧ Exa Z h xthis "com/example/tracebook/tracebook/model/Paging$Walk" ∧ Fld Z h xthis "com/example/tracebook/tracebook/model/Paging$Walk" "backward" "Z" (.int (0 : Int32)) ∧ Fld Z h xthis "com/example/tracebook/tracebook/model/Paging$Walk" "from" "J" (.long x2) ∧ Fld Z h xthis "com/example/tracebook/tracebook/model/Paging$Walk" "skip" "J" (.long x3) ∧ Fld Z h xthis "com/example/tracebook/tracebook/model/Paging$Walk" "take" "I" (.int x4)
theorem own_ef8_0 (m : MethodId) (xthis : Addr) (x2 : Int64) (x3 : Int64) (x4 : Int32) : entryFrame m #[(.ref xthis), (.int (0 : Int32)), (.long x2), (.long x3), (.int x4)] 7 = mkF m 0 #[.val (.ref xthis), .val (.int (0 : Int32)), .val (.long x2), .second, .val (.long x3), .second, .val (.int x4)] [] := by first | (simp [entryFrame, mkF, argsToLocals, Value.category]; done) | rfl
set_option maxRecDepth 65536 in
set_option maxHeartbeats 40000000 in
theorem own_rm8_0 (l : Launch) (Z : State) (a0 : Array Value) (hw : ∀ d ∈ tables_1, d.before a0 Z = true) (ws : List Jvm.Cond) (xthis : Addr) (x2 : Int64) (x3 : Int64) (x4 : Int32) (h0 : Heap) (n0 : Nat) (Z0 : n0 ≤ h0.size) (E_xthis : Exa Z h0 xthis "com/example/tracebook/tracebook/model/Paging$Walk") (F_backward_xthis : Fld Z h0 xthis "com/example/tracebook/tracebook/model/Paging$Walk" "backward" "Z" (.int (0 : Int32))) (F_from_xthis : Fld Z h0 xthis "com/example/tracebook/tracebook/model/Paging$Walk" "from" "J" (.long (0 : Int64))) (F_skip_xthis : Fld Z h0 xthis "com/example/tracebook/tracebook/model/Paging$Walk" "skip" "J" (.long (0 : Int64))) (F_take_xthis : Fld Z h0 xthis "com/example/tracebook/tracebook/model/Paging$Walk" "take" "I" (.int (0 : Int32))) (g_xthis : n0 ≤ xthis) :
    MetFree l (⟨"com/example/tracebook/tracebook/model/Paging$Walk", "<init>", "(ZJJI)V"⟩ : MethodName) (head1 (Jvm.Cond.code (⟨"com/example/tracebook/tracebook/model/Paging$Walk", "<init>", "(ZJJI)V"⟩ : MethodName) prog_17_method_1_code 7 none :: ws) ({ frames := 2, cells := 0, slots := 0, locals := 24 } : Room)) (fun a U => a = #[(.ref xthis), (.int (0 : Int32)), (.long x2), (.long x3), (.int x4)] ∧ Z.Warmed39 U.vm ∧ U.heap = h0) (fun _ _ _ _ _ => True) (fun _ U o U' => ∃ v L, o = .returned v ∧ own_Q8_0 Z xthis x2 x3 x4 h0 n0 v U'.heap L ∧ FrameEnd U o U' L ({ frames := 2, cells := 0, slots := 0, locals := 24 } : Room).cells ({ frames := 2, cells := 0, slots := 0, locals := 24 } : Room).slots) := by
  refine MetFree.of_bodySF (plainFor_of_name own_pn3) hisR ?_
  intro p e s m args below meth c s₁ Bd hml0 hP hK
  obtain ⟨rfl, hZ, hh⟩ := hP
  have hx := Bd.exec
  have hby := Bd.bytes
  have hml : c.maxLocals = 7 := hml0
  have hown : s.vm.findClass "com/example/tracebook/tracebook/model/Paging$Walk" = some m.cls := findClass_of_methodNamed Bd.named
  have hnm := (name_of_methodNamed Bd.named Bd.method).1
  have X0 : Stand p l e ({ frames := 2, cells := 0, slots := 0, locals := 24 } : Room) s m #[(.ref xthis), (.int (0 : Int32)), (.long x2), (.long x3), (.int x4)] below meth c s₁ [] 0 0 := Stand.of_body Bd
  have e0 : s₁.heap = h0 := by rw [← hh, Bd.state]; rfl
  have N0 := Fr.nil n0
  have pre0 : ∀ t, Steps p.tables e below (s₁.setTop (mkF m 0 #[.val (.ref xthis), .val (.int (0 : Int32)), .val (.long x2), .second, .val (.long x3), .second, .val (.int x4)] [])) t → Steps p.tables e below (s₁.setTop (entryFrame m #[(.ref xthis), (.int (0 : Int32)), (.long x2), (.long x3), (.int x4)] 7)) t := fun t k => castTop (own_ef8_0 m xthis x2 x3 x4) k
  have K0 : Keep h0 h0 [xthis] := Keep.refl _ _
  obtain ⟨_, _, ⟨T1, L1, k1, n1⟩, -, X1, ⟨Lc1, hQ1, l1, y1, z1⟩, st1⟩ := X0.specialBack hx (y := (⟨"java/lang/Record", "<init>", "()V"⟩ : MethodName)) rfl hown (mvT hZ (hw _ (List.mem_of_getElem? (i := 57) rfl))) (mvT hZ (hw _ (List.mem_of_getElem? (i := 19) rfl))) (mvT hZ (hw _ (List.mem_of_getElem? (i := 22) rfl))) (by decide) (backOf (W := 0) (own_rm4 l Z a0 hw [] xthis h0 n0 Z0 ) hZ (hw _ (List.mem_of_getElem? (i := 22) rfl)) (hw _ (List.mem_of_getElem? (i := 21) rfl)) (by decide) (by decide)) (g := (mkF m 1 #[.val (.ref xthis), .val (.int (0 : Int32)), .val (.long x2), .second, .val (.long x3), .second, .val (.int x4)] [(.ref xthis)])) rfl (by rw [hml]; rfl) (Steps.refl _) (a := xthis) (argsL := []) (rest := []) (lenOf own_pd0 rfl) rfl (by show 2 * 0 + _ ≤ _; exact Nat.le_of_eq rfl) (hb hby own_d8_1) (fun _ _ => ⟨rfl, e0, (by decide : 0 + 0 ≤ _), (by decide : 0 + 0 ≤ _)⟩)
  dsimp only [Pt.U, Pt.locs, Pt.cells, Pt.slots] at X1 l1 y1 z1 st1 hQ1
  subst l1 y1 z1
  obtain ⟨rfl, N1q, eh1⟩ := hQ1
  have N1 := Fr.app N0 N1q
  obtain ⟨T2, h2, X2, e2, W2, st2⟩ := putFN X1 hx hZ hown (hw _ (List.mem_of_getElem? (i := 58) rfl)) Via.refl eh1 F_backward_xthis E_xthis (Or.inr ⟨(hw _ (List.mem_of_getElem? (i := 59) rfl)), rfl, hnm⟩) (hw _ (List.mem_of_getElem? (i := 52) rfl)) (ty := .boolean) (v' := (.int (0 : Int32))) (by decide) rfl (by decide) (g := (mkF m 6 #[.val (.ref xthis), .val (.int (0 : Int32)), .val (.long x2), .second, .val (.long x3), .second, .val (.int x4)] [(.int (0 : Int32)), (.ref xthis)])) rfl rfl (hb hby own_d8_6)
  have F3 : Fld Z h2 xthis "com/example/tracebook/tracebook/model/Paging$Walk" "backward" "Z" (.int (0 : Int32)) := F_backward_xthis.same W2
  have F4 : Exa Z h2 xthis "com/example/tracebook/tracebook/model/Paging$Walk" := E_xthis.wr W2
  have F5 : Fld Z h2 xthis "com/example/tracebook/tracebook/model/Paging$Walk" "from" "J" (.long (0 : Int64)) := F_from_xthis.other W2 (Or.inr (slot_ne (Or.inr (hw _ (List.mem_of_getElem? (i := 61) rfl))) (Or.inr (hw _ (List.mem_of_getElem? (i := 59) rfl))) (by decide) (t := .long) (t' := .boolean) (by decide) (by decide)))
  have F6 : Fld Z h2 xthis "com/example/tracebook/tracebook/model/Paging$Walk" "skip" "J" (.long (0 : Int64)) := F_skip_xthis.other W2 (Or.inr (slot_ne (Or.inr (hw _ (List.mem_of_getElem? (i := 63) rfl))) (Or.inr (hw _ (List.mem_of_getElem? (i := 59) rfl))) (by decide) (t := .long) (t' := .boolean) (by decide) (by decide)))
  have F7 : Fld Z h2 xthis "com/example/tracebook/tracebook/model/Paging$Walk" "take" "I" (.int (0 : Int32)) := F_take_xthis.other W2 (Or.inr (slot_ne (Or.inr (hw _ (List.mem_of_getElem? (i := 65) rfl))) (Or.inr (hw _ (List.mem_of_getElem? (i := 59) rfl))) (by decide) (t := .int) (t' := .boolean) (by decide) (by decide)))
  have N2 := Fr.snoc X2 N1 g_xthis
  have Z2 : n0 ≤ h2.size := Nat.le_trans Z0 (Keep.of_wr W2).1
  have K2 : Keep h0 h2 [xthis] := K0.wr W2 (Or.inl (List.mem_of_getElem? (i := 0) rfl))
  obtain ⟨T8, h8, X8, e8, W8, st8⟩ := putF X2 hx hZ hown (host := "") (Or.inl (hw _ (List.mem_of_getElem? (i := 60) rfl))) Via.refl e2 F5 F4 (Or.inr ⟨(hw _ (List.mem_of_getElem? (i := 61) rfl)), rfl, hnm⟩) (hw _ (List.mem_of_getElem? (i := 52) rfl)) (ty := .long) (by decide) rfl rfl (g := (mkF m 11 #[.val (.ref xthis), .val (.int (0 : Int32)), .val (.long x2), .second, .val (.long x3), .second, .val (.int x4)] [(.long x2), (.ref xthis)])) rfl rfl (hb hby own_d8_11)
  have F9 : Fld Z h8 xthis "com/example/tracebook/tracebook/model/Paging$Walk" "from" "J" (.long x2) := F5.same W8
  have F10 : Exa Z h8 xthis "com/example/tracebook/tracebook/model/Paging$Walk" := F4.wr W8
  have F11 : Fld Z h8 xthis "com/example/tracebook/tracebook/model/Paging$Walk" "skip" "J" (.long (0 : Int64)) := F6.other W8 (Or.inr (slot_ne (Or.inr (hw _ (List.mem_of_getElem? (i := 63) rfl))) (Or.inr (hw _ (List.mem_of_getElem? (i := 61) rfl))) (by decide) (t := .long) (t' := .long) (by decide) (by decide)))
  have F12 : Fld Z h8 xthis "com/example/tracebook/tracebook/model/Paging$Walk" "take" "I" (.int (0 : Int32)) := F7.other W8 (Or.inr (slot_ne (Or.inr (hw _ (List.mem_of_getElem? (i := 65) rfl))) (Or.inr (hw _ (List.mem_of_getElem? (i := 61) rfl))) (by decide) (t := .int) (t' := .long) (by decide) (by decide)))
  have F13 : Fld Z h8 xthis "com/example/tracebook/tracebook/model/Paging$Walk" "backward" "Z" (.int (0 : Int32)) := F3.other W8 (Or.inr (slot_ne (Or.inr (hw _ (List.mem_of_getElem? (i := 59) rfl))) (Or.inr (hw _ (List.mem_of_getElem? (i := 61) rfl))) (by decide) (t := .boolean) (t' := .long) (by decide) (by decide)))
  have N8 := Fr.snoc X8 N2 g_xthis
  have Z8 : n0 ≤ h8.size := Nat.le_trans Z2 (Keep.of_wr W8).1
  have K8 : Keep h0 h8 [xthis] := K2.wr W8 (Or.inl (List.mem_of_getElem? (i := 0) rfl))
  obtain ⟨T14, h14, X14, e14, W14, st14⟩ := putF X8 hx hZ hown (host := "") (Or.inl (hw _ (List.mem_of_getElem? (i := 62) rfl))) Via.refl e8 F11 F10 (Or.inr ⟨(hw _ (List.mem_of_getElem? (i := 63) rfl)), rfl, hnm⟩) (hw _ (List.mem_of_getElem? (i := 52) rfl)) (ty := .long) (by decide) rfl rfl (g := (mkF m 17 #[.val (.ref xthis), .val (.int (0 : Int32)), .val (.long x2), .second, .val (.long x3), .second, .val (.int x4)] [(.long x3), (.ref xthis)])) rfl rfl (hb hby own_d8_17)
  have F15 : Fld Z h14 xthis "com/example/tracebook/tracebook/model/Paging$Walk" "skip" "J" (.long x3) := F11.same W14
  have F16 : Exa Z h14 xthis "com/example/tracebook/tracebook/model/Paging$Walk" := F10.wr W14
  have F17 : Fld Z h14 xthis "com/example/tracebook/tracebook/model/Paging$Walk" "take" "I" (.int (0 : Int32)) := F12.other W14 (Or.inr (slot_ne (Or.inr (hw _ (List.mem_of_getElem? (i := 65) rfl))) (Or.inr (hw _ (List.mem_of_getElem? (i := 63) rfl))) (by decide) (t := .int) (t' := .long) (by decide) (by decide)))
  have F18 : Fld Z h14 xthis "com/example/tracebook/tracebook/model/Paging$Walk" "backward" "Z" (.int (0 : Int32)) := F13.other W14 (Or.inr (slot_ne (Or.inr (hw _ (List.mem_of_getElem? (i := 59) rfl))) (Or.inr (hw _ (List.mem_of_getElem? (i := 63) rfl))) (by decide) (t := .boolean) (t' := .long) (by decide) (by decide)))
  have F19 : Fld Z h14 xthis "com/example/tracebook/tracebook/model/Paging$Walk" "from" "J" (.long x2) := F9.other W14 (Or.inr (slot_ne (Or.inr (hw _ (List.mem_of_getElem? (i := 61) rfl))) (Or.inr (hw _ (List.mem_of_getElem? (i := 63) rfl))) (by decide) (t := .long) (t' := .long) (by decide) (by decide)))
  have N14 := Fr.snoc X14 N8 g_xthis
  have Z14 : n0 ≤ h14.size := Nat.le_trans Z8 (Keep.of_wr W14).1
  have K14 : Keep h0 h14 [xthis] := K8.wr W14 (Or.inl (List.mem_of_getElem? (i := 0) rfl))
  obtain ⟨T20, h20, X20, e20, W20, st20⟩ := putF X14 hx hZ hown (host := "") (Or.inl (hw _ (List.mem_of_getElem? (i := 64) rfl))) Via.refl e14 F17 F16 (Or.inr ⟨(hw _ (List.mem_of_getElem? (i := 65) rfl)), rfl, hnm⟩) (hw _ (List.mem_of_getElem? (i := 52) rfl)) (ty := .int) (by decide) rfl rfl (g := (mkF m 23 #[.val (.ref xthis), .val (.int (0 : Int32)), .val (.long x2), .second, .val (.long x3), .second, .val (.int x4)] [(.int x4), (.ref xthis)])) rfl rfl (hb hby own_d8_23)
  have F21 : Fld Z h20 xthis "com/example/tracebook/tracebook/model/Paging$Walk" "take" "I" (.int x4) := F17.same W20
  have F22 : Exa Z h20 xthis "com/example/tracebook/tracebook/model/Paging$Walk" := F16.wr W20
  have F23 : Fld Z h20 xthis "com/example/tracebook/tracebook/model/Paging$Walk" "backward" "Z" (.int (0 : Int32)) := F18.other W20 (Or.inr (slot_ne (Or.inr (hw _ (List.mem_of_getElem? (i := 59) rfl))) (Or.inr (hw _ (List.mem_of_getElem? (i := 65) rfl))) (by decide) (t := .boolean) (t' := .int) (by decide) (by decide)))
  have F24 : Fld Z h20 xthis "com/example/tracebook/tracebook/model/Paging$Walk" "from" "J" (.long x2) := F19.other W20 (Or.inr (slot_ne (Or.inr (hw _ (List.mem_of_getElem? (i := 61) rfl))) (Or.inr (hw _ (List.mem_of_getElem? (i := 65) rfl))) (by decide) (t := .long) (t' := .int) (by decide) (by decide)))
  have F25 : Fld Z h20 xthis "com/example/tracebook/tracebook/model/Paging$Walk" "skip" "J" (.long x3) := F15.other W20 (Or.inr (slot_ne (Or.inr (hw _ (List.mem_of_getElem? (i := 63) rfl))) (Or.inr (hw _ (List.mem_of_getElem? (i := 65) rfl))) (by decide) (t := .long) (t' := .int) (by decide) (by decide)))
  have N20 := Fr.snoc X20 N14 g_xthis
  have Z20 : n0 ≤ h20.size := Nat.le_trans Z14 (Keep.of_wr W20).1
  have K20 : Keep h0 h20 [xthis] := K14.wr W20 (Or.inl (List.mem_of_getElem? (i := 0) rfl))
  obtain ⟨fs, hr, hrun, hended, hW, hsame⟩ := X20.leave (v := none) (fun _ => rfl)
  refine ⟨_, _, pre0 _ ?_, hrun, hended, _, _, rfl, ?_, ⟨_, rfl⟩, hW, hsame.mono (by decide) (by decide)⟩
  · show Steps p.tables e below (s₁.setTop (mkF m 0 #[.val (.ref xthis), .val (.int (0 : Int32)), .val (.long x2), .second, .val (.long x3), .second, .val (.int x4)] [])) _
    refine XS.aloadN X0.here hx rfl (hb hby own_d8_0) rfl rfl ?_
    show Steps p.tables e below (s₁.setTop (mkF m 1 #[.val (.ref xthis), .val (.int (0 : Int32)), .val (.long x2), .second, .val (.long x3), .second, .val (.int x4)] [(.ref xthis)])) _
    refine st1.trans ?_
    show Steps p.tables e below (T1.setTop (mkF m 4 #[.val (.ref xthis), .val (.int (0 : Int32)), .val (.long x2), .second, .val (.long x3), .second, .val (.int x4)] [])) _
    refine XS.aloadN X1.here hx rfl (hb hby own_d8_4) rfl rfl ?_
    show Steps p.tables e below (T1.setTop (mkF m 5 #[.val (.ref xthis), .val (.int (0 : Int32)), .val (.long x2), .second, .val (.long x3), .second, .val (.int x4)] [(.ref xthis)])) _
    refine XS.iloadN X1.here hx rfl (hb hby own_d8_5) rfl ?_
    show Steps p.tables e below (T1.setTop (mkF m 6 #[.val (.ref xthis), .val (.int (0 : Int32)), .val (.long x2), .second, .val (.long x3), .second, .val (.int x4)] [(.int (0 : Int32)), (.ref xthis)])) _
    refine st2 _ ?_
    show Steps p.tables e below (T2.setTop (mkF m 9 #[.val (.ref xthis), .val (.int (0 : Int32)), .val (.long x2), .second, .val (.long x3), .second, .val (.int x4)] [])) _
    refine XS.aloadN X2.here hx rfl (hb hby own_d8_9) rfl rfl ?_
    show Steps p.tables e below (T2.setTop (mkF m 10 #[.val (.ref xthis), .val (.int (0 : Int32)), .val (.long x2), .second, .val (.long x3), .second, .val (.int x4)] [(.ref xthis)])) _
    refine XS.lloadN X2.here hx rfl (hb hby own_d8_10) rfl ?_
    show Steps p.tables e below (T2.setTop (mkF m 11 #[.val (.ref xthis), .val (.int (0 : Int32)), .val (.long x2), .second, .val (.long x3), .second, .val (.int x4)] [(.long x2), (.ref xthis)])) _
    refine st8 _ ?_
    show Steps p.tables e below (T8.setTop (mkF m 14 #[.val (.ref xthis), .val (.int (0 : Int32)), .val (.long x2), .second, .val (.long x3), .second, .val (.int x4)] [])) _
    refine XS.aloadN X8.here hx rfl (hb hby own_d8_14) rfl rfl ?_
    show Steps p.tables e below (T8.setTop (mkF m 15 #[.val (.ref xthis), .val (.int (0 : Int32)), .val (.long x2), .second, .val (.long x3), .second, .val (.int x4)] [(.ref xthis)])) _
    refine XS.lload X8.here hx rfl (hb hby own_d8_15) rfl ?_
    show Steps p.tables e below (T8.setTop (mkF m 17 #[.val (.ref xthis), .val (.int (0 : Int32)), .val (.long x2), .second, .val (.long x3), .second, .val (.int x4)] [(.long x3), (.ref xthis)])) _
    refine st14 _ ?_
    show Steps p.tables e below (T14.setTop (mkF m 20 #[.val (.ref xthis), .val (.int (0 : Int32)), .val (.long x2), .second, .val (.long x3), .second, .val (.int x4)] [])) _
    refine XS.aloadN X14.here hx rfl (hb hby own_d8_20) rfl rfl ?_
    show Steps p.tables e below (T14.setTop (mkF m 21 #[.val (.ref xthis), .val (.int (0 : Int32)), .val (.long x2), .second, .val (.long x3), .second, .val (.int x4)] [(.ref xthis)])) _
    refine XS.iload X14.here hx rfl (hb hby own_d8_21) rfl ?_
    show Steps p.tables e below (T14.setTop (mkF m 23 #[.val (.ref xthis), .val (.int (0 : Int32)), .val (.long x2), .second, .val (.long x3), .second, .val (.int x4)] [(.int x4), (.ref xthis)])) _
    refine st20 _ ?_
    show Steps p.tables e below (T20.setTop (mkF m 26 #[.val (.ref xthis), .val (.int (0 : Int32)), .val (.long x2), .second, .val (.long x3), .second, .val (.int x4)] [])) _
    exact X20.returnOut hx Bd.returns (hb hby own_d8_26) hr
  · show own_Q8_0 Z xthis x2 x3 x4 h0 n0 _ T20.heap _
    rw [e20]
    exact ⟨rfl, N20, K20, F22, F23, F24, F25, F21⟩
def own_Q8_1 (Z : State) (xthis : Addr) (x2 : Int64) (x3 : Int64) (x4 : Int32) (h0 : Heap) (n0 : Nat) (v : Option Value) (h : Heap) (L : List Loc) : Prop := v = none ∧ Fr n0 L ∧ Keep h0 h [xthis] ∧ Exa Z h xthis "com/example/tracebook/tracebook/model/Paging$Walk" ∧ Fld Z h xthis "com/example/tracebook/tracebook/model/Paging$Walk" "backward" "Z" (.int (1 : Int32)) ∧ Fld Z h xthis "com/example/tracebook/tracebook/model/Paging$Walk" "from" "J" (.long x2) ∧ Fld Z h xthis "com/example/tracebook/tracebook/model/Paging$Walk" "skip" "J" (.long x3) ∧ Fld Z h xthis "com/example/tracebook/tracebook/model/Paging$Walk" "take" "I" (.int x4)
theorem own_ef8_1 (m : MethodId) (xthis : Addr) (x2 : Int64) (x3 : Int64) (x4 : Int32) : entryFrame m #[(.ref xthis), (.int (1 : Int32)), (.long x2), (.long x3), (.int x4)] 7 = mkF m 0 #[.val (.ref xthis), .val (.int (1 : Int32)), .val (.long x2), .second, .val (.long x3), .second, .val (.int x4)] [] := by first | (simp [entryFrame, mkF, argsToLocals, Value.category]; done) | rfl
set_option maxRecDepth 65536 in
set_option maxHeartbeats 40000000 in
theorem own_rm8_1 (l : Launch) (Z : State) (a0 : Array Value) (hw : ∀ d ∈ tables_1, d.before a0 Z = true) (ws : List Jvm.Cond) (xthis : Addr) (x2 : Int64) (x3 : Int64) (x4 : Int32) (h0 : Heap) (n0 : Nat) (Z0 : n0 ≤ h0.size) (E_xthis : Exa Z h0 xthis "com/example/tracebook/tracebook/model/Paging$Walk") (F_backward_xthis : Fld Z h0 xthis "com/example/tracebook/tracebook/model/Paging$Walk" "backward" "Z" (.int (0 : Int32))) (F_from_xthis : Fld Z h0 xthis "com/example/tracebook/tracebook/model/Paging$Walk" "from" "J" (.long (0 : Int64))) (F_skip_xthis : Fld Z h0 xthis "com/example/tracebook/tracebook/model/Paging$Walk" "skip" "J" (.long (0 : Int64))) (F_take_xthis : Fld Z h0 xthis "com/example/tracebook/tracebook/model/Paging$Walk" "take" "I" (.int (0 : Int32))) (g_xthis : n0 ≤ xthis) :
    MetFree l (⟨"com/example/tracebook/tracebook/model/Paging$Walk", "<init>", "(ZJJI)V"⟩ : MethodName) (head1 (Jvm.Cond.code (⟨"com/example/tracebook/tracebook/model/Paging$Walk", "<init>", "(ZJJI)V"⟩ : MethodName) prog_17_method_1_code 7 none :: ws) ({ frames := 2, cells := 0, slots := 0, locals := 24 } : Room)) (fun a U => a = #[(.ref xthis), (.int (1 : Int32)), (.long x2), (.long x3), (.int x4)] ∧ Z.Warmed39 U.vm ∧ U.heap = h0) (fun _ _ _ _ _ => True) (fun _ U o U' => ∃ v L, o = .returned v ∧ own_Q8_1 Z xthis x2 x3 x4 h0 n0 v U'.heap L ∧ FrameEnd U o U' L ({ frames := 2, cells := 0, slots := 0, locals := 24 } : Room).cells ({ frames := 2, cells := 0, slots := 0, locals := 24 } : Room).slots) := by
  refine MetFree.of_bodySF (plainFor_of_name own_pn3) hisR ?_
  intro p e s m args below meth c s₁ Bd hml0 hP hK
  obtain ⟨rfl, hZ, hh⟩ := hP
  have hx := Bd.exec
  have hby := Bd.bytes
  have hml : c.maxLocals = 7 := hml0
  have hown : s.vm.findClass "com/example/tracebook/tracebook/model/Paging$Walk" = some m.cls := findClass_of_methodNamed Bd.named
  have hnm := (name_of_methodNamed Bd.named Bd.method).1
  have X0 : Stand p l e ({ frames := 2, cells := 0, slots := 0, locals := 24 } : Room) s m #[(.ref xthis), (.int (1 : Int32)), (.long x2), (.long x3), (.int x4)] below meth c s₁ [] 0 0 := Stand.of_body Bd
  have e0 : s₁.heap = h0 := by rw [← hh, Bd.state]; rfl
  have N0 := Fr.nil n0
  have pre0 : ∀ t, Steps p.tables e below (s₁.setTop (mkF m 0 #[.val (.ref xthis), .val (.int (1 : Int32)), .val (.long x2), .second, .val (.long x3), .second, .val (.int x4)] [])) t → Steps p.tables e below (s₁.setTop (entryFrame m #[(.ref xthis), (.int (1 : Int32)), (.long x2), (.long x3), (.int x4)] 7)) t := fun t k => castTop (own_ef8_1 m xthis x2 x3 x4) k
  have K0 : Keep h0 h0 [xthis] := Keep.refl _ _
  obtain ⟨_, _, ⟨T1, L1, k1, n1⟩, -, X1, ⟨Lc1, hQ1, l1, y1, z1⟩, st1⟩ := X0.specialBack hx (y := (⟨"java/lang/Record", "<init>", "()V"⟩ : MethodName)) rfl hown (mvT hZ (hw _ (List.mem_of_getElem? (i := 57) rfl))) (mvT hZ (hw _ (List.mem_of_getElem? (i := 19) rfl))) (mvT hZ (hw _ (List.mem_of_getElem? (i := 22) rfl))) (by decide) (backOf (W := 0) (own_rm4 l Z a0 hw [] xthis h0 n0 Z0 ) hZ (hw _ (List.mem_of_getElem? (i := 22) rfl)) (hw _ (List.mem_of_getElem? (i := 21) rfl)) (by decide) (by decide)) (g := (mkF m 1 #[.val (.ref xthis), .val (.int (1 : Int32)), .val (.long x2), .second, .val (.long x3), .second, .val (.int x4)] [(.ref xthis)])) rfl (by rw [hml]; rfl) (Steps.refl _) (a := xthis) (argsL := []) (rest := []) (lenOf own_pd0 rfl) rfl (by show 2 * 0 + _ ≤ _; exact Nat.le_of_eq rfl) (hb hby own_d8_1) (fun _ _ => ⟨rfl, e0, (by decide : 0 + 0 ≤ _), (by decide : 0 + 0 ≤ _)⟩)
  dsimp only [Pt.U, Pt.locs, Pt.cells, Pt.slots] at X1 l1 y1 z1 st1 hQ1
  subst l1 y1 z1
  obtain ⟨rfl, N1q, eh1⟩ := hQ1
  have N1 := Fr.app N0 N1q
  obtain ⟨T2, h2, X2, e2, W2, st2⟩ := putFN X1 hx hZ hown (hw _ (List.mem_of_getElem? (i := 58) rfl)) Via.refl eh1 F_backward_xthis E_xthis (Or.inr ⟨(hw _ (List.mem_of_getElem? (i := 59) rfl)), rfl, hnm⟩) (hw _ (List.mem_of_getElem? (i := 52) rfl)) (ty := .boolean) (v' := (.int (1 : Int32))) (by decide) rfl (by decide) (g := (mkF m 6 #[.val (.ref xthis), .val (.int (1 : Int32)), .val (.long x2), .second, .val (.long x3), .second, .val (.int x4)] [(.int (1 : Int32)), (.ref xthis)])) rfl rfl (hb hby own_d8_6)
  have F3 : Fld Z h2 xthis "com/example/tracebook/tracebook/model/Paging$Walk" "backward" "Z" (.int (1 : Int32)) := F_backward_xthis.same W2
  have F4 : Exa Z h2 xthis "com/example/tracebook/tracebook/model/Paging$Walk" := E_xthis.wr W2
  have F5 : Fld Z h2 xthis "com/example/tracebook/tracebook/model/Paging$Walk" "from" "J" (.long (0 : Int64)) := F_from_xthis.other W2 (Or.inr (slot_ne (Or.inr (hw _ (List.mem_of_getElem? (i := 61) rfl))) (Or.inr (hw _ (List.mem_of_getElem? (i := 59) rfl))) (by decide) (t := .long) (t' := .boolean) (by decide) (by decide)))
  have F6 : Fld Z h2 xthis "com/example/tracebook/tracebook/model/Paging$Walk" "skip" "J" (.long (0 : Int64)) := F_skip_xthis.other W2 (Or.inr (slot_ne (Or.inr (hw _ (List.mem_of_getElem? (i := 63) rfl))) (Or.inr (hw _ (List.mem_of_getElem? (i := 59) rfl))) (by decide) (t := .long) (t' := .boolean) (by decide) (by decide)))
  have F7 : Fld Z h2 xthis "com/example/tracebook/tracebook/model/Paging$Walk" "take" "I" (.int (0 : Int32)) := F_take_xthis.other W2 (Or.inr (slot_ne (Or.inr (hw _ (List.mem_of_getElem? (i := 65) rfl))) (Or.inr (hw _ (List.mem_of_getElem? (i := 59) rfl))) (by decide) (t := .int) (t' := .boolean) (by decide) (by decide)))
  have N2 := Fr.snoc X2 N1 g_xthis
  have Z2 : n0 ≤ h2.size := Nat.le_trans Z0 (Keep.of_wr W2).1
  have K2 : Keep h0 h2 [xthis] := K0.wr W2 (Or.inl (List.mem_of_getElem? (i := 0) rfl))
  obtain ⟨T8, h8, X8, e8, W8, st8⟩ := putF X2 hx hZ hown (host := "") (Or.inl (hw _ (List.mem_of_getElem? (i := 60) rfl))) Via.refl e2 F5 F4 (Or.inr ⟨(hw _ (List.mem_of_getElem? (i := 61) rfl)), rfl, hnm⟩) (hw _ (List.mem_of_getElem? (i := 52) rfl)) (ty := .long) (by decide) rfl rfl (g := (mkF m 11 #[.val (.ref xthis), .val (.int (1 : Int32)), .val (.long x2), .second, .val (.long x3), .second, .val (.int x4)] [(.long x2), (.ref xthis)])) rfl rfl (hb hby own_d8_11)
  have F9 : Fld Z h8 xthis "com/example/tracebook/tracebook/model/Paging$Walk" "from" "J" (.long x2) := F5.same W8
  have F10 : Exa Z h8 xthis "com/example/tracebook/tracebook/model/Paging$Walk" := F4.wr W8
  have F11 : Fld Z h8 xthis "com/example/tracebook/tracebook/model/Paging$Walk" "skip" "J" (.long (0 : Int64)) := F6.other W8 (Or.inr (slot_ne (Or.inr (hw _ (List.mem_of_getElem? (i := 63) rfl))) (Or.inr (hw _ (List.mem_of_getElem? (i := 61) rfl))) (by decide) (t := .long) (t' := .long) (by decide) (by decide)))
  have F12 : Fld Z h8 xthis "com/example/tracebook/tracebook/model/Paging$Walk" "take" "I" (.int (0 : Int32)) := F7.other W8 (Or.inr (slot_ne (Or.inr (hw _ (List.mem_of_getElem? (i := 65) rfl))) (Or.inr (hw _ (List.mem_of_getElem? (i := 61) rfl))) (by decide) (t := .int) (t' := .long) (by decide) (by decide)))
  have F13 : Fld Z h8 xthis "com/example/tracebook/tracebook/model/Paging$Walk" "backward" "Z" (.int (1 : Int32)) := F3.other W8 (Or.inr (slot_ne (Or.inr (hw _ (List.mem_of_getElem? (i := 59) rfl))) (Or.inr (hw _ (List.mem_of_getElem? (i := 61) rfl))) (by decide) (t := .boolean) (t' := .long) (by decide) (by decide)))
  have N8 := Fr.snoc X8 N2 g_xthis
  have Z8 : n0 ≤ h8.size := Nat.le_trans Z2 (Keep.of_wr W8).1
  have K8 : Keep h0 h8 [xthis] := K2.wr W8 (Or.inl (List.mem_of_getElem? (i := 0) rfl))
  obtain ⟨T14, h14, X14, e14, W14, st14⟩ := putF X8 hx hZ hown (host := "") (Or.inl (hw _ (List.mem_of_getElem? (i := 62) rfl))) Via.refl e8 F11 F10 (Or.inr ⟨(hw _ (List.mem_of_getElem? (i := 63) rfl)), rfl, hnm⟩) (hw _ (List.mem_of_getElem? (i := 52) rfl)) (ty := .long) (by decide) rfl rfl (g := (mkF m 17 #[.val (.ref xthis), .val (.int (1 : Int32)), .val (.long x2), .second, .val (.long x3), .second, .val (.int x4)] [(.long x3), (.ref xthis)])) rfl rfl (hb hby own_d8_17)
  have F15 : Fld Z h14 xthis "com/example/tracebook/tracebook/model/Paging$Walk" "skip" "J" (.long x3) := F11.same W14
  have F16 : Exa Z h14 xthis "com/example/tracebook/tracebook/model/Paging$Walk" := F10.wr W14
  have F17 : Fld Z h14 xthis "com/example/tracebook/tracebook/model/Paging$Walk" "take" "I" (.int (0 : Int32)) := F12.other W14 (Or.inr (slot_ne (Or.inr (hw _ (List.mem_of_getElem? (i := 65) rfl))) (Or.inr (hw _ (List.mem_of_getElem? (i := 63) rfl))) (by decide) (t := .int) (t' := .long) (by decide) (by decide)))
  have F18 : Fld Z h14 xthis "com/example/tracebook/tracebook/model/Paging$Walk" "backward" "Z" (.int (1 : Int32)) := F13.other W14 (Or.inr (slot_ne (Or.inr (hw _ (List.mem_of_getElem? (i := 59) rfl))) (Or.inr (hw _ (List.mem_of_getElem? (i := 63) rfl))) (by decide) (t := .boolean) (t' := .long) (by decide) (by decide)))
  have F19 : Fld Z h14 xthis "com/example/tracebook/tracebook/model/Paging$Walk" "from" "J" (.long x2) := F9.other W14 (Or.inr (slot_ne (Or.inr (hw _ (List.mem_of_getElem? (i := 61) rfl))) (Or.inr (hw _ (List.mem_of_getElem? (i := 63) rfl))) (by decide) (t := .long) (t' := .long) (by decide) (by decide)))
  have N14 := Fr.snoc X14 N8 g_xthis
  have Z14 : n0 ≤ h14.size := Nat.le_trans Z8 (Keep.of_wr W14).1
  have K14 : Keep h0 h14 [xthis] := K8.wr W14 (Or.inl (List.mem_of_getElem? (i := 0) rfl))
  obtain ⟨T20, h20, X20, e20, W20, st20⟩ := putF X14 hx hZ hown (host := "") (Or.inl (hw _ (List.mem_of_getElem? (i := 64) rfl))) Via.refl e14 F17 F16 (Or.inr ⟨(hw _ (List.mem_of_getElem? (i := 65) rfl)), rfl, hnm⟩) (hw _ (List.mem_of_getElem? (i := 52) rfl)) (ty := .int) (by decide) rfl rfl (g := (mkF m 23 #[.val (.ref xthis), .val (.int (1 : Int32)), .val (.long x2), .second, .val (.long x3), .second, .val (.int x4)] [(.int x4), (.ref xthis)])) rfl rfl (hb hby own_d8_23)
  have F21 : Fld Z h20 xthis "com/example/tracebook/tracebook/model/Paging$Walk" "take" "I" (.int x4) := F17.same W20
  have F22 : Exa Z h20 xthis "com/example/tracebook/tracebook/model/Paging$Walk" := F16.wr W20
  have F23 : Fld Z h20 xthis "com/example/tracebook/tracebook/model/Paging$Walk" "backward" "Z" (.int (1 : Int32)) := F18.other W20 (Or.inr (slot_ne (Or.inr (hw _ (List.mem_of_getElem? (i := 59) rfl))) (Or.inr (hw _ (List.mem_of_getElem? (i := 65) rfl))) (by decide) (t := .boolean) (t' := .int) (by decide) (by decide)))
  have F24 : Fld Z h20 xthis "com/example/tracebook/tracebook/model/Paging$Walk" "from" "J" (.long x2) := F19.other W20 (Or.inr (slot_ne (Or.inr (hw _ (List.mem_of_getElem? (i := 61) rfl))) (Or.inr (hw _ (List.mem_of_getElem? (i := 65) rfl))) (by decide) (t := .long) (t' := .int) (by decide) (by decide)))
  have F25 : Fld Z h20 xthis "com/example/tracebook/tracebook/model/Paging$Walk" "skip" "J" (.long x3) := F15.other W20 (Or.inr (slot_ne (Or.inr (hw _ (List.mem_of_getElem? (i := 63) rfl))) (Or.inr (hw _ (List.mem_of_getElem? (i := 65) rfl))) (by decide) (t := .long) (t' := .int) (by decide) (by decide)))
  have N20 := Fr.snoc X20 N14 g_xthis
  have Z20 : n0 ≤ h20.size := Nat.le_trans Z14 (Keep.of_wr W20).1
  have K20 : Keep h0 h20 [xthis] := K14.wr W20 (Or.inl (List.mem_of_getElem? (i := 0) rfl))
  obtain ⟨fs, hr, hrun, hended, hW, hsame⟩ := X20.leave (v := none) (fun _ => rfl)
  refine ⟨_, _, pre0 _ ?_, hrun, hended, _, _, rfl, ?_, ⟨_, rfl⟩, hW, hsame.mono (by decide) (by decide)⟩
  · show Steps p.tables e below (s₁.setTop (mkF m 0 #[.val (.ref xthis), .val (.int (1 : Int32)), .val (.long x2), .second, .val (.long x3), .second, .val (.int x4)] [])) _
    refine XS.aloadN X0.here hx rfl (hb hby own_d8_0) rfl rfl ?_
    show Steps p.tables e below (s₁.setTop (mkF m 1 #[.val (.ref xthis), .val (.int (1 : Int32)), .val (.long x2), .second, .val (.long x3), .second, .val (.int x4)] [(.ref xthis)])) _
    refine st1.trans ?_
    show Steps p.tables e below (T1.setTop (mkF m 4 #[.val (.ref xthis), .val (.int (1 : Int32)), .val (.long x2), .second, .val (.long x3), .second, .val (.int x4)] [])) _
    refine XS.aloadN X1.here hx rfl (hb hby own_d8_4) rfl rfl ?_
    show Steps p.tables e below (T1.setTop (mkF m 5 #[.val (.ref xthis), .val (.int (1 : Int32)), .val (.long x2), .second, .val (.long x3), .second, .val (.int x4)] [(.ref xthis)])) _
    refine XS.iloadN X1.here hx rfl (hb hby own_d8_5) rfl ?_
    show Steps p.tables e below (T1.setTop (mkF m 6 #[.val (.ref xthis), .val (.int (1 : Int32)), .val (.long x2), .second, .val (.long x3), .second, .val (.int x4)] [(.int (1 : Int32)), (.ref xthis)])) _
    refine st2 _ ?_
    show Steps p.tables e below (T2.setTop (mkF m 9 #[.val (.ref xthis), .val (.int (1 : Int32)), .val (.long x2), .second, .val (.long x3), .second, .val (.int x4)] [])) _
    refine XS.aloadN X2.here hx rfl (hb hby own_d8_9) rfl rfl ?_
    show Steps p.tables e below (T2.setTop (mkF m 10 #[.val (.ref xthis), .val (.int (1 : Int32)), .val (.long x2), .second, .val (.long x3), .second, .val (.int x4)] [(.ref xthis)])) _
    refine XS.lloadN X2.here hx rfl (hb hby own_d8_10) rfl ?_
    show Steps p.tables e below (T2.setTop (mkF m 11 #[.val (.ref xthis), .val (.int (1 : Int32)), .val (.long x2), .second, .val (.long x3), .second, .val (.int x4)] [(.long x2), (.ref xthis)])) _
    refine st8 _ ?_
    show Steps p.tables e below (T8.setTop (mkF m 14 #[.val (.ref xthis), .val (.int (1 : Int32)), .val (.long x2), .second, .val (.long x3), .second, .val (.int x4)] [])) _
    refine XS.aloadN X8.here hx rfl (hb hby own_d8_14) rfl rfl ?_
    show Steps p.tables e below (T8.setTop (mkF m 15 #[.val (.ref xthis), .val (.int (1 : Int32)), .val (.long x2), .second, .val (.long x3), .second, .val (.int x4)] [(.ref xthis)])) _
    refine XS.lload X8.here hx rfl (hb hby own_d8_15) rfl ?_
    show Steps p.tables e below (T8.setTop (mkF m 17 #[.val (.ref xthis), .val (.int (1 : Int32)), .val (.long x2), .second, .val (.long x3), .second, .val (.int x4)] [(.long x3), (.ref xthis)])) _
    refine st14 _ ?_
    show Steps p.tables e below (T14.setTop (mkF m 20 #[.val (.ref xthis), .val (.int (1 : Int32)), .val (.long x2), .second, .val (.long x3), .second, .val (.int x4)] [])) _
    refine XS.aloadN X14.here hx rfl (hb hby own_d8_20) rfl rfl ?_
    show Steps p.tables e below (T14.setTop (mkF m 21 #[.val (.ref xthis), .val (.int (1 : Int32)), .val (.long x2), .second, .val (.long x3), .second, .val (.int x4)] [(.ref xthis)])) _
    refine XS.iload X14.here hx rfl (hb hby own_d8_21) rfl ?_
    show Steps p.tables e below (T14.setTop (mkF m 23 #[.val (.ref xthis), .val (.int (1 : Int32)), .val (.long x2), .second, .val (.long x3), .second, .val (.int x4)] [(.int x4), (.ref xthis)])) _
    refine st20 _ ?_
    show Steps p.tables e below (T20.setTop (mkF m 26 #[.val (.ref xthis), .val (.int (1 : Int32)), .val (.long x2), .second, .val (.long x3), .second, .val (.int x4)] [])) _
    exact X20.returnOut hx Bd.returns (hb hby own_d8_26) hr
  · show own_Q8_1 Z xthis x2 x3 x4 h0 n0 _ T20.heap _
    rw [e20]
    exact ⟨rfl, N20, K20, F22, F23, F24, F25, F21⟩
theorem own_d9_0 : decode prog_17_method_5_code 0 = .ok (.aload_n 0, 1) := by decide +kernel
theorem own_d9_1 : decode prog_17_method_5_code 1 = .ok (.getfield 7, 3) := by decide +kernel
theorem own_d9_4 : decode prog_17_method_5_code 4 = .ok (.ireturn, 1) := by decide +kernel
def own_Q9 (Z : State) (xthis : Addr) (xw : Int32) (h0 : Heap) (n0 : Nat) (v : Option Value) (h : Heap) (L : List Loc) : Prop := v = some (.int (nar .boolean xw)) ∧ Fr n0 L ∧ h = h0
theorem own_ef9 (m : MethodId) (xthis : Addr) : entryFrame m #[(.ref xthis)] 1 = mkF m 0 #[.val (.ref xthis)] [] := by first | (simp [entryFrame, mkF, argsToLocals, Value.category]; done) | rfl
set_option maxRecDepth 65536 in
set_option maxHeartbeats 40000000 in
theorem own_rm9 (l : Launch) (Z : State) (a0 : Array Value) (hw : ∀ d ∈ tables_1, d.before a0 Z = true) (ws : List Jvm.Cond) (xthis : Addr) (xw : Int32) (h0 : Heap) (n0 : Nat) (Z0 : n0 ≤ h0.size) (F_backward_xthis : Fld Z h0 xthis "com/example/tracebook/tracebook/model/Paging$Walk" "backward" "Z" (.int xw)) :
    MetFree l (⟨"com/example/tracebook/tracebook/model/Paging$Walk", "backward", "()Z"⟩ : MethodName) (head1 (Jvm.Cond.code (⟨"com/example/tracebook/tracebook/model/Paging$Walk", "backward", "()Z"⟩ : MethodName) prog_17_method_5_code 1 (some .boolean) :: ws) ({ frames := 0, cells := 0, slots := 0, locals := 0 } : Room)) (fun a U => a = #[(.ref xthis)] ∧ Z.Warmed39 U.vm ∧ U.heap = h0) (fun _ _ _ _ _ => True) (fun _ U o U' => ∃ v L, o = .returned v ∧ own_Q9 Z xthis xw h0 n0 v U'.heap L ∧ FrameEnd U o U' L ({ frames := 0, cells := 0, slots := 0, locals := 0 } : Room).cells ({ frames := 0, cells := 0, slots := 0, locals := 0 } : Room).slots) := by
  refine MetFree.of_bodySF (plainFor_of_name own_pn3) hisR ?_
  intro p e s m args below meth c s₁ Bd hml0 hP hK
  obtain ⟨rfl, hZ, hh⟩ := hP
  have hx := Bd.exec
  have hby := Bd.bytes
  have hml : c.maxLocals = 1 := hml0
  have hown : s.vm.findClass "com/example/tracebook/tracebook/model/Paging$Walk" = some m.cls := findClass_of_methodNamed Bd.named
  have hnm := (name_of_methodNamed Bd.named Bd.method).1
  have X0 : Stand p l e ({ frames := 0, cells := 0, slots := 0, locals := 0 } : Room) s m #[(.ref xthis)] below meth c s₁ [] 0 0 := Stand.of_body Bd
  have e0 : s₁.heap = h0 := by rw [← hh, Bd.state]; rfl
  have N0 := Fr.nil n0
  have pre0 : ∀ t, Steps p.tables e below (s₁.setTop (mkF m 0 #[.val (.ref xthis)] [])) t → Steps p.tables e below (s₁.setTop (entryFrame m #[(.ref xthis)] 1)) t := fun t k => castTop (own_ef9 m xthis) k
  obtain ⟨T1, X1, e1, st1⟩ := getF X0 hx hZ hown (host := "") (Or.inl (hw _ (List.mem_of_getElem? (i := 58) rfl))) Via.refl e0 F_backward_xthis (g := (mkF m 1 #[.val (.ref xthis)] [(.ref xthis)])) rfl rfl (hb hby own_d9_1)
  obtain ⟨fs, hr, hrun, hended, hW, hsame⟩ := X1.leave (v := some (.int (nar .boolean xw))) (fun h => by rw [Bd.returns] at h; cases h)
  refine ⟨_, _, pre0 _ ?_, hrun, hended, _, _, rfl, ?_, ⟨_, rfl⟩, hW, hsame.mono (by decide) (by decide)⟩
  · show Steps p.tables e below (s₁.setTop (mkF m 0 #[.val (.ref xthis)] [])) _
    refine XS.aloadN X0.here hx rfl (hb hby own_d9_0) rfl rfl ?_
    show Steps p.tables e below (s₁.setTop (mkF m 1 #[.val (.ref xthis)] [(.ref xthis)])) _
    refine st1 _ ?_
    show Steps p.tables e below (T1.setTop (mkF m 4 #[.val (.ref xthis)] [(.int xw)])) _
    exact retN X1 hx (t := .boolean) Bd.returns (by simp) (hb hby own_d9_4) hr
  · show own_Q9 Z xthis xw h0 n0 _ T1.heap _
    rw [e1]
    exact ⟨rfl, N0, rfl⟩
theorem own_d10_0 : decode prog_17_method_6_code 0 = .ok (.aload_n 0, 1) := by decide +kernel
theorem own_d10_1 : decode prog_17_method_6_code 1 = .ok (.getfield 13, 3) := by decide +kernel
theorem own_d10_4 : decode prog_17_method_6_code 4 = .ok (.lreturn, 1) := by decide +kernel
def own_Q10 (Z : State) (xthis : Addr) (xw : Int64) (h0 : Heap) (n0 : Nat) (v : Option Value) (h : Heap) (L : List Loc) : Prop := v = some (.long xw) ∧ Fr n0 L ∧ h = h0
theorem own_ef10 (m : MethodId) (xthis : Addr) : entryFrame m #[(.ref xthis)] 1 = mkF m 0 #[.val (.ref xthis)] [] := by first | (simp [entryFrame, mkF, argsToLocals, Value.category]; done) | rfl
set_option maxRecDepth 65536 in
set_option maxHeartbeats 40000000 in
theorem own_rm10 (l : Launch) (Z : State) (a0 : Array Value) (hw : ∀ d ∈ tables_1, d.before a0 Z = true) (ws : List Jvm.Cond) (xthis : Addr) (xw : Int64) (h0 : Heap) (n0 : Nat) (Z0 : n0 ≤ h0.size) (F_from_xthis : Fld Z h0 xthis "com/example/tracebook/tracebook/model/Paging$Walk" "from" "J" (.long xw)) :
    MetFree l (⟨"com/example/tracebook/tracebook/model/Paging$Walk", "from", "()J"⟩ : MethodName) (head1 (Jvm.Cond.code (⟨"com/example/tracebook/tracebook/model/Paging$Walk", "from", "()J"⟩ : MethodName) prog_17_method_6_code 1 (some .long) :: ws) ({ frames := 0, cells := 0, slots := 0, locals := 0 } : Room)) (fun a U => a = #[(.ref xthis)] ∧ Z.Warmed39 U.vm ∧ U.heap = h0) (fun _ _ _ _ _ => True) (fun _ U o U' => ∃ v L, o = .returned v ∧ own_Q10 Z xthis xw h0 n0 v U'.heap L ∧ FrameEnd U o U' L ({ frames := 0, cells := 0, slots := 0, locals := 0 } : Room).cells ({ frames := 0, cells := 0, slots := 0, locals := 0 } : Room).slots) := by
  refine MetFree.of_bodySF (plainFor_of_name own_pn3) hisR ?_
  intro p e s m args below meth c s₁ Bd hml0 hP hK
  obtain ⟨rfl, hZ, hh⟩ := hP
  have hx := Bd.exec
  have hby := Bd.bytes
  have hml : c.maxLocals = 1 := hml0
  have hown : s.vm.findClass "com/example/tracebook/tracebook/model/Paging$Walk" = some m.cls := findClass_of_methodNamed Bd.named
  have hnm := (name_of_methodNamed Bd.named Bd.method).1
  have X0 : Stand p l e ({ frames := 0, cells := 0, slots := 0, locals := 0 } : Room) s m #[(.ref xthis)] below meth c s₁ [] 0 0 := Stand.of_body Bd
  have e0 : s₁.heap = h0 := by rw [← hh, Bd.state]; rfl
  have N0 := Fr.nil n0
  have pre0 : ∀ t, Steps p.tables e below (s₁.setTop (mkF m 0 #[.val (.ref xthis)] [])) t → Steps p.tables e below (s₁.setTop (entryFrame m #[(.ref xthis)] 1)) t := fun t k => castTop (own_ef10 m xthis) k
  obtain ⟨T1, X1, e1, st1⟩ := getF X0 hx hZ hown (host := "") (Or.inl (hw _ (List.mem_of_getElem? (i := 60) rfl))) Via.refl e0 F_from_xthis (g := (mkF m 1 #[.val (.ref xthis)] [(.ref xthis)])) rfl rfl (hb hby own_d10_1)
  obtain ⟨fs, hr, hrun, hended, hW, hsame⟩ := X1.leave (v := some (.long xw)) (fun h => by rw [Bd.returns] at h; cases h)
  refine ⟨_, _, pre0 _ ?_, hrun, hended, _, _, rfl, ?_, ⟨_, rfl⟩, hW, hsame.mono (by decide) (by decide)⟩
  · show Steps p.tables e below (s₁.setTop (mkF m 0 #[.val (.ref xthis)] [])) _
    refine XS.aloadN X0.here hx rfl (hb hby own_d10_0) rfl rfl ?_
    show Steps p.tables e below (s₁.setTop (mkF m 1 #[.val (.ref xthis)] [(.ref xthis)])) _
    refine st1 _ ?_
    show Steps p.tables e below (T1.setTop (mkF m 4 #[.val (.ref xthis)] [(.long xw)])) _
    exact retJ X1 hx Bd.returns (hb hby own_d10_4) hr
  · show own_Q10 Z xthis xw h0 n0 _ T1.heap _
    rw [e1]
    exact ⟨rfl, N0, rfl⟩
theorem own_d11_0 : decode prog_17_method_7_code 0 = .ok (.aload_n 0, 1) := by decide +kernel
theorem own_d11_1 : decode prog_17_method_7_code 1 = .ok (.getfield 17, 3) := by decide +kernel
theorem own_d11_4 : decode prog_17_method_7_code 4 = .ok (.lreturn, 1) := by decide +kernel
def own_Q11 (Z : State) (xthis : Addr) (xw : Int64) (h0 : Heap) (n0 : Nat) (v : Option Value) (h : Heap) (L : List Loc) : Prop := v = some (.long xw) ∧ Fr n0 L ∧ h = h0
theorem own_ef11 (m : MethodId) (xthis : Addr) : entryFrame m #[(.ref xthis)] 1 = mkF m 0 #[.val (.ref xthis)] [] := by first | (simp [entryFrame, mkF, argsToLocals, Value.category]; done) | rfl
set_option maxRecDepth 65536 in
set_option maxHeartbeats 40000000 in
theorem own_rm11 (l : Launch) (Z : State) (a0 : Array Value) (hw : ∀ d ∈ tables_1, d.before a0 Z = true) (ws : List Jvm.Cond) (xthis : Addr) (xw : Int64) (h0 : Heap) (n0 : Nat) (Z0 : n0 ≤ h0.size) (F_skip_xthis : Fld Z h0 xthis "com/example/tracebook/tracebook/model/Paging$Walk" "skip" "J" (.long xw)) :
    MetFree l (⟨"com/example/tracebook/tracebook/model/Paging$Walk", "skip", "()J"⟩ : MethodName) (head1 (Jvm.Cond.code (⟨"com/example/tracebook/tracebook/model/Paging$Walk", "skip", "()J"⟩ : MethodName) prog_17_method_7_code 1 (some .long) :: ws) ({ frames := 0, cells := 0, slots := 0, locals := 0 } : Room)) (fun a U => a = #[(.ref xthis)] ∧ Z.Warmed39 U.vm ∧ U.heap = h0) (fun _ _ _ _ _ => True) (fun _ U o U' => ∃ v L, o = .returned v ∧ own_Q11 Z xthis xw h0 n0 v U'.heap L ∧ FrameEnd U o U' L ({ frames := 0, cells := 0, slots := 0, locals := 0 } : Room).cells ({ frames := 0, cells := 0, slots := 0, locals := 0 } : Room).slots) := by
  refine MetFree.of_bodySF (plainFor_of_name own_pn3) hisR ?_
  intro p e s m args below meth c s₁ Bd hml0 hP hK
  obtain ⟨rfl, hZ, hh⟩ := hP
  have hx := Bd.exec
  have hby := Bd.bytes
  have hml : c.maxLocals = 1 := hml0
  have hown : s.vm.findClass "com/example/tracebook/tracebook/model/Paging$Walk" = some m.cls := findClass_of_methodNamed Bd.named
  have hnm := (name_of_methodNamed Bd.named Bd.method).1
  have X0 : Stand p l e ({ frames := 0, cells := 0, slots := 0, locals := 0 } : Room) s m #[(.ref xthis)] below meth c s₁ [] 0 0 := Stand.of_body Bd
  have e0 : s₁.heap = h0 := by rw [← hh, Bd.state]; rfl
  have N0 := Fr.nil n0
  have pre0 : ∀ t, Steps p.tables e below (s₁.setTop (mkF m 0 #[.val (.ref xthis)] [])) t → Steps p.tables e below (s₁.setTop (entryFrame m #[(.ref xthis)] 1)) t := fun t k => castTop (own_ef11 m xthis) k
  obtain ⟨T1, X1, e1, st1⟩ := getF X0 hx hZ hown (host := "") (Or.inl (hw _ (List.mem_of_getElem? (i := 62) rfl))) Via.refl e0 F_skip_xthis (g := (mkF m 1 #[.val (.ref xthis)] [(.ref xthis)])) rfl rfl (hb hby own_d11_1)
  obtain ⟨fs, hr, hrun, hended, hW, hsame⟩ := X1.leave (v := some (.long xw)) (fun h => by rw [Bd.returns] at h; cases h)
  refine ⟨_, _, pre0 _ ?_, hrun, hended, _, _, rfl, ?_, ⟨_, rfl⟩, hW, hsame.mono (by decide) (by decide)⟩
  · show Steps p.tables e below (s₁.setTop (mkF m 0 #[.val (.ref xthis)] [])) _
    refine XS.aloadN X0.here hx rfl (hb hby own_d11_0) rfl rfl ?_
    show Steps p.tables e below (s₁.setTop (mkF m 1 #[.val (.ref xthis)] [(.ref xthis)])) _
    refine st1 _ ?_
    show Steps p.tables e below (T1.setTop (mkF m 4 #[.val (.ref xthis)] [(.long xw)])) _
    exact retJ X1 hx Bd.returns (hb hby own_d11_4) hr
  · show own_Q11 Z xthis xw h0 n0 _ T1.heap _
    rw [e1]
    exact ⟨rfl, N0, rfl⟩
theorem own_d12_0 : decode prog_17_method_8_code 0 = .ok (.aload_n 0, 1) := by decide +kernel
theorem own_d12_1 : decode prog_17_method_8_code 1 = .ok (.getfield 20, 3) := by decide +kernel
theorem own_d12_4 : decode prog_17_method_8_code 4 = .ok (.ireturn, 1) := by decide +kernel
def own_Q12 (Z : State) (xthis : Addr) (xw : Int32) (h0 : Heap) (n0 : Nat) (v : Option Value) (h : Heap) (L : List Loc) : Prop := v = some (.int xw) ∧ Fr n0 L ∧ h = h0
theorem own_ef12 (m : MethodId) (xthis : Addr) : entryFrame m #[(.ref xthis)] 1 = mkF m 0 #[.val (.ref xthis)] [] := by first | (simp [entryFrame, mkF, argsToLocals, Value.category]; done) | rfl
set_option maxRecDepth 65536 in
set_option maxHeartbeats 40000000 in
theorem own_rm12 (l : Launch) (Z : State) (a0 : Array Value) (hw : ∀ d ∈ tables_1, d.before a0 Z = true) (ws : List Jvm.Cond) (xthis : Addr) (xw : Int32) (h0 : Heap) (n0 : Nat) (Z0 : n0 ≤ h0.size) (F_take_xthis : Fld Z h0 xthis "com/example/tracebook/tracebook/model/Paging$Walk" "take" "I" (.int xw)) :
    MetFree l (⟨"com/example/tracebook/tracebook/model/Paging$Walk", "take", "()I"⟩ : MethodName) (head1 (Jvm.Cond.code (⟨"com/example/tracebook/tracebook/model/Paging$Walk", "take", "()I"⟩ : MethodName) prog_17_method_8_code 1 (some .int) :: ws) ({ frames := 0, cells := 0, slots := 0, locals := 0 } : Room)) (fun a U => a = #[(.ref xthis)] ∧ Z.Warmed39 U.vm ∧ U.heap = h0) (fun _ _ _ _ _ => True) (fun _ U o U' => ∃ v L, o = .returned v ∧ own_Q12 Z xthis xw h0 n0 v U'.heap L ∧ FrameEnd U o U' L ({ frames := 0, cells := 0, slots := 0, locals := 0 } : Room).cells ({ frames := 0, cells := 0, slots := 0, locals := 0 } : Room).slots) := by
  refine MetFree.of_bodySF (plainFor_of_name own_pn3) hisR ?_
  intro p e s m args below meth c s₁ Bd hml0 hP hK
  obtain ⟨rfl, hZ, hh⟩ := hP
  have hx := Bd.exec
  have hby := Bd.bytes
  have hml : c.maxLocals = 1 := hml0
  have hown : s.vm.findClass "com/example/tracebook/tracebook/model/Paging$Walk" = some m.cls := findClass_of_methodNamed Bd.named
  have hnm := (name_of_methodNamed Bd.named Bd.method).1
  have X0 : Stand p l e ({ frames := 0, cells := 0, slots := 0, locals := 0 } : Room) s m #[(.ref xthis)] below meth c s₁ [] 0 0 := Stand.of_body Bd
  have e0 : s₁.heap = h0 := by rw [← hh, Bd.state]; rfl
  have N0 := Fr.nil n0
  have pre0 : ∀ t, Steps p.tables e below (s₁.setTop (mkF m 0 #[.val (.ref xthis)] [])) t → Steps p.tables e below (s₁.setTop (entryFrame m #[(.ref xthis)] 1)) t := fun t k => castTop (own_ef12 m xthis) k
  obtain ⟨T1, X1, e1, st1⟩ := getF X0 hx hZ hown (host := "") (Or.inl (hw _ (List.mem_of_getElem? (i := 64) rfl))) Via.refl e0 F_take_xthis (g := (mkF m 1 #[.val (.ref xthis)] [(.ref xthis)])) rfl rfl (hb hby own_d12_1)
  obtain ⟨fs, hr, hrun, hended, hW, hsame⟩ := X1.leave (v := some (.int xw)) (fun h => by rw [Bd.returns] at h; cases h)
  refine ⟨_, _, pre0 _ ?_, hrun, hended, _, _, rfl, ?_, ⟨_, rfl⟩, hW, hsame.mono (by decide) (by decide)⟩
  · show Steps p.tables e below (s₁.setTop (mkF m 0 #[.val (.ref xthis)] [])) _
    refine XS.aloadN X0.here hx rfl (hb hby own_d12_0) rfl rfl ?_
    show Steps p.tables e below (s₁.setTop (mkF m 1 #[.val (.ref xthis)] [(.ref xthis)])) _
    refine st1 _ ?_
    show Steps p.tables e below (T1.setTop (mkF m 4 #[.val (.ref xthis)] [(.int xw)])) _
    exact retI X1 hx Bd.returns (hb hby own_d12_4) hr
  · show own_Q12 Z xthis xw h0 n0 _ T1.heap _
    rw [e1]
    exact ⟨rfl, N0, rfl⟩
theorem own_pd1 : parseMethodDescriptor "()I" = some ⟨[], some .int⟩ := by decide +kernel
theorem own_pd2 : parseMethodDescriptor "(ZJJI)V" = some ⟨[.boolean, .long, .long, .int], none⟩ := by decide +kernel
theorem own_pd3 : parseMethodDescriptor "(JJ)J" = some ⟨[.long, .long], some .long⟩ := by decide +kernel
theorem own_d6_0 : decode prog_14_method_2_code 0 = .ok (.aload_n 0, 1) := by decide +kernel
theorem own_d6_1 : decode prog_14_method_2_code 1 = .ok (.getfield 7, 3) := by decide +kernel
theorem own_d6_4 : decode prog_14_method_2_code 4 = .ok (.invokevirtual 28, 3) := by decide +kernel
theorem own_d6_7 : decode prog_14_method_2_code 7 = .ok (.tableswitch 206 0 2 #[25, 164, 185], 25) := by decide +kernel
theorem own_d6_32 : decode prog_14_method_2_code 32 = .ok (.aload_n 0, 1) := by decide +kernel
theorem own_d6_33 : decode prog_14_method_2_code 33 = .ok (.getfield 21, 3) := by decide +kernel
theorem own_d6_36 : decode prog_14_method_2_code 36 = .ok (.lconst 1, 1) := by decide +kernel
theorem own_d6_37 : decode prog_14_method_2_code 37 = .ok (.lsub, 1) := by decide +kernel
theorem own_d6_38 : decode prog_14_method_2_code 38 = .ok (.lstore 4, 2) := by decide +kernel
theorem own_d6_40 : decode prog_14_method_2_code 40 = .ok (.lload 4, 2) := by decide +kernel
theorem own_d6_42 : decode prog_14_method_2_code 42 = .ok (.ldc2_w 36, 3) := by decide +kernel
theorem own_d6_45 : decode prog_14_method_2_code 45 = .ok (.aload_n 0, 1) := by decide +kernel
theorem own_d6_46 : decode prog_14_method_2_code 46 = .ok (.getfield 17, 3) := by decide +kernel
theorem own_d6_49 : decode prog_14_method_2_code 49 = .ok (.i2l, 1) := by decide +kernel
theorem own_d6_50 : decode prog_14_method_2_code 50 = .ok (.ldiv, 1) := by decide +kernel
theorem own_d6_51 : decode prog_14_method_2_code 51 = .ok (.lcmp, 1) := by decide +kernel
theorem own_d6_52 : decode prog_14_method_2_code 52 = .ok (.ifCond .le 7, 3) := by decide +kernel
theorem own_d6_55 : decode prog_14_method_2_code 55 = .ok (.iconst 1, 1) := by decide +kernel
theorem own_d6_56 : decode prog_14_method_2_code 56 = .ok (.goto 4, 3) := by decide +kernel
theorem own_d6_59 : decode prog_14_method_2_code 59 = .ok (.iconst 0, 1) := by decide +kernel
theorem own_d6_60 : decode prog_14_method_2_code 60 = .ok (.istore 6, 2) := by decide +kernel
theorem own_d6_62 : decode prog_14_method_2_code 62 = .ok (.iload 6, 2) := by decide +kernel
theorem own_d6_64 : decode prog_14_method_2_code 64 = .ok (.ifCond .eq 9, 3) := by decide +kernel
theorem own_d6_67 : decode prog_14_method_2_code 67 = .ok (.ldc2_w 36, 3) := by decide +kernel
theorem own_d6_70 : decode prog_14_method_2_code 70 = .ok (.goto 11, 3) := by decide +kernel
theorem own_d6_73 : decode prog_14_method_2_code 73 = .ok (.lload 4, 2) := by decide +kernel
theorem own_d6_75 : decode prog_14_method_2_code 75 = .ok (.aload_n 0, 1) := by decide +kernel
theorem own_d6_76 : decode prog_14_method_2_code 76 = .ok (.getfield 17, 3) := by decide +kernel
theorem own_d6_79 : decode prog_14_method_2_code 79 = .ok (.i2l, 1) := by decide +kernel
theorem own_d6_80 : decode prog_14_method_2_code 80 = .ok (.lmul, 1) := by decide +kernel
theorem own_d6_81 : decode prog_14_method_2_code 81 = .ok (.lstore 7, 2) := by decide +kernel
theorem own_d6_83 : decode prog_14_method_2_code 83 = .ok (.lload 7, 2) := by decide +kernel
theorem own_d6_85 : decode prog_14_method_2_code 85 = .ok (.lload_n 1, 1) := by decide +kernel
theorem own_d6_86 : decode prog_14_method_2_code 86 = .ok (.lcmp, 1) := by decide +kernel
theorem own_d6_87 : decode prog_14_method_2_code 87 = .ok (.ifCond .lt 18, 3) := by decide +kernel
theorem own_d6_90 : decode prog_14_method_2_code 90 = .ok (.new 38, 3) := by decide +kernel
theorem own_d6_93 : decode prog_14_method_2_code 93 = .ok (.dup, 1) := by decide +kernel
theorem own_d6_94 : decode prog_14_method_2_code 94 = .ok (.iconst 0, 1) := by decide +kernel
theorem own_d6_95 : decode prog_14_method_2_code 95 = .ok (.lconst 0, 1) := by decide +kernel
theorem own_d6_96 : decode prog_14_method_2_code 96 = .ok (.lconst 0, 1) := by decide +kernel
theorem own_d6_97 : decode prog_14_method_2_code 97 = .ok (.iconst 0, 1) := by decide +kernel
theorem own_d6_98 : decode prog_14_method_2_code 98 = .ok (.invokespecial 40, 3) := by decide +kernel
theorem own_d6_101 : decode prog_14_method_2_code 101 = .ok (.astore_n 3, 1) := by decide +kernel
theorem own_d6_102 : decode prog_14_method_2_code 102 = .ok (.goto 66, 3) := by decide +kernel
theorem own_d6_105 : decode prog_14_method_2_code 105 = .ok (.aload_n 0, 1) := by decide +kernel
theorem own_d6_106 : decode prog_14_method_2_code 106 = .ok (.getfield 17, 3) := by decide +kernel
theorem own_d6_109 : decode prog_14_method_2_code 109 = .ok (.i2l, 1) := by decide +kernel
theorem own_d6_110 : decode prog_14_method_2_code 110 = .ok (.lload_n 1, 1) := by decide +kernel
theorem own_d6_111 : decode prog_14_method_2_code 111 = .ok (.lload 7, 2) := by decide +kernel
theorem own_d6_113 : decode prog_14_method_2_code 113 = .ok (.lsub, 1) := by decide +kernel
theorem own_d6_114 : decode prog_14_method_2_code 114 = .ok (.invokestatic 43, 3) := by decide +kernel
theorem own_d6_117 : decode prog_14_method_2_code 117 = .ok (.l2i, 1) := by decide +kernel
theorem own_d6_118 : decode prog_14_method_2_code 118 = .ok (.istore 9, 2) := by decide +kernel
theorem own_d6_120 : decode prog_14_method_2_code 120 = .ok (.lload_n 1, 1) := by decide +kernel
theorem own_d6_121 : decode prog_14_method_2_code 121 = .ok (.lload 7, 2) := by decide +kernel
theorem own_d6_123 : decode prog_14_method_2_code 123 = .ok (.lsub, 1) := by decide +kernel
theorem own_d6_124 : decode prog_14_method_2_code 124 = .ok (.iload 9, 2) := by decide +kernel
theorem own_d6_126 : decode prog_14_method_2_code 126 = .ok (.i2l, 1) := by decide +kernel
theorem own_d6_127 : decode prog_14_method_2_code 127 = .ok (.lsub, 1) := by decide +kernel
theorem own_d6_128 : decode prog_14_method_2_code 128 = .ok (.lstore 10, 2) := by decide +kernel
theorem own_d6_130 : decode prog_14_method_2_code 130 = .ok (.lload 7, 2) := by decide +kernel
theorem own_d6_132 : decode prog_14_method_2_code 132 = .ok (.lload 10, 2) := by decide +kernel
theorem own_d6_134 : decode prog_14_method_2_code 134 = .ok (.lcmp, 1) := by decide +kernel
theorem own_d6_135 : decode prog_14_method_2_code 135 = .ok (.ifCond .gt 19, 3) := by decide +kernel
theorem own_d6_138 : decode prog_14_method_2_code 138 = .ok (.new 38, 3) := by decide +kernel
theorem own_d6_141 : decode prog_14_method_2_code 141 = .ok (.dup, 1) := by decide +kernel
theorem own_d6_142 : decode prog_14_method_2_code 142 = .ok (.iconst 0, 1) := by decide +kernel
theorem own_d6_143 : decode prog_14_method_2_code 143 = .ok (.lconst 0, 1) := by decide +kernel
theorem own_d6_144 : decode prog_14_method_2_code 144 = .ok (.lload 7, 2) := by decide +kernel
theorem own_d6_146 : decode prog_14_method_2_code 146 = .ok (.iload 9, 2) := by decide +kernel
theorem own_d6_148 : decode prog_14_method_2_code 148 = .ok (.invokespecial 40, 3) := by decide +kernel
theorem own_d6_151 : decode prog_14_method_2_code 151 = .ok (.goto 16, 3) := by decide +kernel
theorem own_d6_154 : decode prog_14_method_2_code 154 = .ok (.new 38, 3) := by decide +kernel
theorem own_d6_157 : decode prog_14_method_2_code 157 = .ok (.dup, 1) := by decide +kernel
theorem own_d6_158 : decode prog_14_method_2_code 158 = .ok (.iconst 1, 1) := by decide +kernel
theorem own_d6_159 : decode prog_14_method_2_code 159 = .ok (.lconst 0, 1) := by decide +kernel
theorem own_d6_160 : decode prog_14_method_2_code 160 = .ok (.lload 10, 2) := by decide +kernel
theorem own_d6_162 : decode prog_14_method_2_code 162 = .ok (.iload 9, 2) := by decide +kernel
theorem own_d6_164 : decode prog_14_method_2_code 164 = .ok (.invokespecial 40, 3) := by decide +kernel
theorem own_d6_167 : decode prog_14_method_2_code 167 = .ok (.astore_n 3, 1) := by decide +kernel
theorem own_d6_168 : decode prog_14_method_2_code 168 = .ok (.goto 65, 3) := by decide +kernel
theorem own_d6_233 : decode prog_14_method_2_code 233 = .ok (.aload_n 3, 1) := by decide +kernel
theorem own_d6_234 : decode prog_14_method_2_code 234 = .ok (.areturn, 1) := by decide +kernel
def own_Q6_0 (Z : State) (xthis : Addr) (xt : Int64) (xty : Addr) (xsz : Int32) (xix : Int64) (xti : Int64) (h0 : Heap) (n0 : Nat) (v : Option Value) (h : Heap) (L : List Loc) : Prop := ∃ (xn : Addr), v = some (.ref xn) ∧ Fr n0 L ∧ Keep h0 h [] ∧ h0.size ≤ xn ∧ xn < h.size ∧ Exa Z h xn "com/example/tracebook/tracebook/model/Paging$Walk" ∧ Fld Z h xn "com/example/tracebook/tracebook/model/Paging$Walk" "backward" "Z" (.int (own_bw xix xsz xt)) ∧ Fld Z h xn "com/example/tracebook/tracebook/model/Paging$Walk" "from" "J" (.long (0 : Int64)) ∧ Fld Z h xn "com/example/tracebook/tracebook/model/Paging$Walk" "skip" "J" (.long (own_sk xix xsz xt)) ∧ Fld Z h xn "com/example/tracebook/tracebook/model/Paging$Walk" "take" "I" (.int (own_tk xix xsz xt))
theorem own_ef6_0 (m : MethodId) (xthis : Addr) (xt : Int64) : entryFrame m #[(.ref xthis), (.long xt)] 12 = mkF m 0 #[.val (.ref xthis), .val (.long xt), .second, .unset, .unset, .unset, .unset, .unset, .unset, .unset, .unset, .unset] [] := by first | (simp [entryFrame, mkF, argsToLocals, Value.category]; done) | rfl
set_option maxRecDepth 65536 in
set_option maxHeartbeats 40000000 in
theorem own_rm6_0 (l : Launch) (Z : State) (a0 : Array Value) (hw : ∀ d ∈ tables_1, d.before a0 Z = true) (ws : List Jvm.Cond) (xthis : Addr) (xt : Int64) (xty : Addr) (xsz : Int32) (xix : Int64) (xti : Int64) (h0 : Heap) (n0 : Nat) (Z0 : n0 ≤ h0.size) (F_type_xthis : Fld Z h0 xthis "com/example/tracebook/tracebook/model/Paging" "type" "Lcom/example/tracebook/tracebook/model/Paging$Type;" (.ref xty)) (E_xty : Exa Z h0 xty "com/example/tracebook/tracebook/model/Paging$Type") (F_ordinal_xty : Fld Z h0 xty "java/lang/Enum" "ordinal" "I" (.int (0 : Int32))) (F_pageSize_xthis : Fld Z h0 xthis "com/example/tracebook/tracebook/model/Paging" "pageSize" "I" (.int xsz)) (F_pageIndex_xthis : Fld Z h0 xthis "com/example/tracebook/tracebook/model/Paging" "pageIndex" "J" (.long xix)) (F_recordTime_xthis : Fld Z h0 xthis "com/example/tracebook/tracebook/model/Paging" "recordTime" "J" (.long xti)) (hsz : (0 : Int32) < xsz) :
    MetFree l (⟨"com/example/tracebook/tracebook/model/Paging", "walk", "(J)Lcom/example/tracebook/tracebook/model/Paging$Walk;"⟩ : MethodName) (head1 (Jvm.Cond.code (⟨"com/example/tracebook/tracebook/model/Paging", "walk", "(J)Lcom/example/tracebook/tracebook/model/Paging$Walk;"⟩ : MethodName) prog_14_method_2_code 12 (some (.object "com/example/tracebook/tracebook/model/Paging$Walk")) :: ws) ({ frames := 3, cells := 1, slots := 4, locals := 43 } : Room)) (fun a U => a = #[(.ref xthis), (.long xt)] ∧ Z.Warmed39 U.vm ∧ U.heap = h0) (fun _ _ _ _ _ => True) (fun _ U o U' => ∃ v L, o = .returned v ∧ own_Q6_0 Z xthis xt xty xsz xix xti h0 n0 v U'.heap L ∧ FrameEnd U o U' L ({ frames := 3, cells := 1, slots := 4, locals := 43 } : Room).cells ({ frames := 3, cells := 1, slots := 4, locals := 43 } : Room).slots) := by
  refine MetFree.of_bodySF (plainFor_of_name own_pn1) hisR ?_
  intro p e s m args below meth c s₁ Bd hml0 hP hK
  obtain ⟨rfl, hZ, hh⟩ := hP
  have hx := Bd.exec
  have hby := Bd.bytes
  have hml : c.maxLocals = 12 := hml0
  have hown : s.vm.findClass "com/example/tracebook/tracebook/model/Paging" = some m.cls := findClass_of_methodNamed Bd.named
  have hnm := (name_of_methodNamed Bd.named Bd.method).1
  have X0 : Stand p l e ({ frames := 3, cells := 1, slots := 4, locals := 43 } : Room) s m #[(.ref xthis), (.long xt)] below meth c s₁ [] 0 0 := Stand.of_body Bd
  have e0 : s₁.heap = h0 := by rw [← hh, Bd.state]; rfl
  have N0 := Fr.nil n0
  have pre0 : ∀ t, Steps p.tables e below (s₁.setTop (mkF m 0 #[.val (.ref xthis), .val (.long xt), .second, .unset, .unset, .unset, .unset, .unset, .unset, .unset, .unset, .unset] [])) t → Steps p.tables e below (s₁.setTop (entryFrame m #[(.ref xthis), (.long xt)] 12)) t := fun t k => castTop (own_ef6_0 m xthis xt) k
  have K0 : Keep h0 h0 [] := Keep.refl _ _
  obtain ⟨T1, X1, e1, st1⟩ := getF X0 hx hZ hown (host := "") (Or.inl (hw _ (List.mem_of_getElem? (i := 26) rfl))) Via.refl e0 F_type_xthis (g := (mkF m 1 #[.val (.ref xthis), .val (.long xt), .second, .unset, .unset, .unset, .unset, .unset, .unset, .unset, .unset, .unset] [(.ref xthis)])) rfl rfl (hb hby own_d6_1)
  obtain ⟨cq2, kq2, q2a, q2b, q2c⟩ := isOf hZ e1 E_xty
  obtain ⟨_, _, ⟨T2, L2, k2, n2⟩, -, X2, ⟨Lc2, hQ2, l2, y2, z2⟩, st2⟩ := X1.virtualBackUp hx (x := (⟨"com/example/tracebook/tracebook/model/Paging$Type", "ordinal", "()I"⟩ : MethodName)) (y := (⟨"java/lang/Enum", "ordinal", "()I"⟩ : MethodName)) hown (mvT hZ (hw _ (List.mem_of_getElem? (i := 41) rfl))) (mvT hZ (hw _ (List.mem_of_getElem? (i := 42) rfl))) (mvT hZ (hw _ (List.mem_of_getElem? (i := 43) rfl))) (by decide) (mvT hZ (hw _ (List.mem_of_getElem? (i := 45) rfl))) (mvT hZ (hw _ (List.mem_of_getElem? (i := 44) rfl))) (backOf (W := 0) (own_rm7 l Z a0 hw [] xty (0 : Int32) h0 n0 Z0 F_ordinal_xty) hZ (hw _ (List.mem_of_getElem? (i := 47) rfl)) (hw _ (List.mem_of_getElem? (i := 46) rfl)) (by decide) (by decide)) q2a q2c (g := (mkF m 4 #[.val (.ref xthis), .val (.long xt), .second, .unset, .unset, .unset, .unset, .unset, .unset, .unset, .unset, .unset] [(.ref xty)])) rfl (by rw [hml]; rfl) (Steps.refl _) (argsL := []) (rest := []) (lenOf own_pd1 rfl) rfl (by show 2 * 0 + _ ≤ _; exact Nat.le_of_eq rfl) (hb hby own_d6_4) (fun _ _ => ⟨rfl, e1, (by decide : 0 + 0 ≤ _), (by decide : 0 + 0 ≤ _)⟩)
  dsimp only [Pt.U, Pt.locs, Pt.cells, Pt.slots] at X2 l2 y2 z2 st2 hQ2
  subst l2 y2 z2
  obtain ⟨rfl, N2q, eh2⟩ := hQ2
  have N2 := Fr.app N0 N2q
  obtain ⟨T3, X3, e3, st3⟩ := getF X2 hx hZ hown (host := "") (Or.inl (hw _ (List.mem_of_getElem? (i := 32) rfl))) Via.refl eh2 F_pageIndex_xthis (g := (mkF m 33 #[.val (.ref xthis), .val (.long xt), .second, .unset, .unset, .unset, .unset, .unset, .unset, .unset, .unset, .unset] [(.ref xthis)])) rfl rfl (hb hby own_d6_33)
  obtain ⟨v38, hv38⟩ : ∃ w : Int64, w = (xix - (1 : Int64)) := ⟨_, rfl⟩
  have pre4 : ∀ t, Steps p.tables e below (T3.setTop (mkF m 40 #[.val (.ref xthis), .val (.long xt), .second, .unset, .val (.long v38), .second, .unset, .unset, .unset, .unset, .unset, .unset] [])) t → Steps p.tables e below (s₁.setTop (entryFrame m #[(.ref xthis), (.long xt)] 12)) t := by
    intro t k
    rw [hv38] at k
    refine pre0 _ ?_
    show Steps p.tables e below (s₁.setTop (mkF m 0 #[.val (.ref xthis), .val (.long xt), .second, .unset, .unset, .unset, .unset, .unset, .unset, .unset, .unset, .unset] [])) _
    refine XS.aloadN X0.here hx rfl (hb hby own_d6_0) rfl rfl ?_
    show Steps p.tables e below (s₁.setTop (mkF m 1 #[.val (.ref xthis), .val (.long xt), .second, .unset, .unset, .unset, .unset, .unset, .unset, .unset, .unset, .unset] [(.ref xthis)])) _
    refine st1 _ ?_
    show Steps p.tables e below (T1.setTop (mkF m 4 #[.val (.ref xthis), .val (.long xt), .second, .unset, .unset, .unset, .unset, .unset, .unset, .unset, .unset, .unset] [(.ref xty)])) _
    refine st2.trans ?_
    show Steps p.tables e below (T2.setTop (mkF m 7 #[.val (.ref xthis), .val (.long xt), .second, .unset, .unset, .unset, .unset, .unset, .unset, .unset, .unset, .unset] [(.int (0 : Int32))])) _
    refine XS.tswIn X2.here hx rfl (pc0 := 7) (pc' := 32) rfl (hb hby own_d6_7) rfl (by decide) (o := 25) (by decide) (by decide) (by decide) ?_
    show Steps p.tables e below (T2.setTop (mkF m 32 #[.val (.ref xthis), .val (.long xt), .second, .unset, .unset, .unset, .unset, .unset, .unset, .unset, .unset, .unset] [])) _
    refine XS.aloadN X2.here hx rfl (hb hby own_d6_32) rfl rfl ?_
    show Steps p.tables e below (T2.setTop (mkF m 33 #[.val (.ref xthis), .val (.long xt), .second, .unset, .unset, .unset, .unset, .unset, .unset, .unset, .unset, .unset] [(.ref xthis)])) _
    refine st3 _ ?_
    show Steps p.tables e below (T3.setTop (mkF m 36 #[.val (.ref xthis), .val (.long xt), .second, .unset, .unset, .unset, .unset, .unset, .unset, .unset, .unset, .unset] [(.long xix)])) _
    refine XS.lconst X3.here hx rfl (hb hby own_d6_36) ?_
    show Steps p.tables e below (T3.setTop (mkF m 37 #[.val (.ref xthis), .val (.long xt), .second, .unset, .unset, .unset, .unset, .unset, .unset, .unset, .unset, .unset] [(.long (1 : Int64)), (.long xix)])) _
    refine XS.lsub X3.here hx rfl (hb hby own_d6_37) rfl ?_
    show Steps p.tables e below (T3.setTop (mkF m 38 #[.val (.ref xthis), .val (.long xt), .second, .unset, .unset, .unset, .unset, .unset, .unset, .unset, .unset, .unset] [(.long (xix - (1 : Int64)))])) _
    refine XS.lstore X3.here hx rfl (hb hby own_d6_38) rfl (l' := #[.val (.ref xthis), .val (.long xt), .second, .unset, .val (.long (xix - (1 : Int64))), .second, .unset, .unset, .unset, .unset, .unset, .unset]) rfl ?_
    exact k
  obtain ⟨T5, X5, e5, st5⟩ := getF X3 hx hZ hown (host := "") (Or.inl (hw _ (List.mem_of_getElem? (i := 30) rfl))) Via.refl e3 F_pageSize_xthis (g := (mkF m 46 #[.val (.ref xthis), .val (.long xt), .second, .unset, .val (.long v38), .second, .unset, .unset, .unset, .unset, .unset, .unset] [(.ref xthis), (.long (9223372036854775807 : Int64)), (.long v38)])) rfl rfl (hb hby own_d6_46)
  have pre6 : ∀ t, Steps p.tables e below (T5.setTop (mkF m 52 #[.val (.ref xthis), .val (.long xt), .second, .unset, .val (.long v38), .second, .unset, .unset, .unset, .unset, .unset, .unset] [(.int (lcmpW v38 ((9223372036854775807 : Int64) / (xsz.toInt64))))])) t → Steps p.tables e below (s₁.setTop (entryFrame m #[(.ref xthis), (.long xt)] 12)) t := by
    intro t k
    refine pre4 _ ?_
    show Steps p.tables e below (T3.setTop (mkF m 40 #[.val (.ref xthis), .val (.long xt), .second, .unset, .val (.long v38), .second, .unset, .unset, .unset, .unset, .unset, .unset] [])) _
    refine XS.lload X3.here hx rfl (hb hby own_d6_40) rfl ?_
    show Steps p.tables e below (T3.setTop (mkF m 42 #[.val (.ref xthis), .val (.long xt), .second, .unset, .val (.long v38), .second, .unset, .unset, .unset, .unset, .unset, .unset] [(.long v38)])) _
    refine X3.ldc2Long hx hown (mvT hZ (hw _ (List.mem_of_getElem? (i := 50) rfl))) (g := (mkF m 42 #[.val (.ref xthis), .val (.long xt), .second, .unset, .val (.long v38), .second, .unset, .unset, .unset, .unset, .unset, .unset] [(.long v38)])) rfl (hb hby own_d6_42) _ ?_
    show Steps p.tables e below (T3.setTop (mkF m 45 #[.val (.ref xthis), .val (.long xt), .second, .unset, .val (.long v38), .second, .unset, .unset, .unset, .unset, .unset, .unset] [(.long (9223372036854775807 : Int64)), (.long v38)])) _
    refine XS.aloadN X3.here hx rfl (hb hby own_d6_45) rfl rfl ?_
    show Steps p.tables e below (T3.setTop (mkF m 46 #[.val (.ref xthis), .val (.long xt), .second, .unset, .val (.long v38), .second, .unset, .unset, .unset, .unset, .unset, .unset] [(.ref xthis), (.long (9223372036854775807 : Int64)), (.long v38)])) _
    refine st5 _ ?_
    show Steps p.tables e below (T5.setTop (mkF m 49 #[.val (.ref xthis), .val (.long xt), .second, .unset, .val (.long v38), .second, .unset, .unset, .unset, .unset, .unset, .unset] [(.int xsz), (.long (9223372036854775807 : Int64)), (.long v38)])) _
    refine XS.i2l X5.here hx rfl (hb hby own_d6_49) rfl ?_
    show Steps p.tables e below (T5.setTop (mkF m 50 #[.val (.ref xthis), .val (.long xt), .second, .unset, .val (.long v38), .second, .unset, .unset, .unset, .unset, .unset, .unset] [(.long (xsz.toInt64)), (.long (9223372036854775807 : Int64)), (.long v38)])) _
    refine XS.ldiv X5.here hx rfl (hb hby own_d6_50) rfl (own_ne0 hsz) ?_
    show Steps p.tables e below (T5.setTop (mkF m 51 #[.val (.ref xthis), .val (.long xt), .second, .unset, .val (.long v38), .second, .unset, .unset, .unset, .unset, .unset, .unset] [(.long ((9223372036854775807 : Int64) / (xsz.toInt64))), (.long v38)])) _
    refine XS.lcmp X5.here hx rfl (hb hby own_d6_51) rfl ?_
    exact k
  by_cases hc52 : ((9223372036854775807 : Int64) / (xsz.toInt64)) < v38
  · have hd7 : ¬ ((1 : Int32) = (0 : Int32)) := (by decide)
    have e1 : own_st xix xsz = (9223372036854775807 : Int64) := by unfold own_st; rw [← hv38, if_pos hc52]
    have hn87 := own_nmax xt
    obtain ⟨T8, h8, X8, e8, E8, A8, D8, -, st8⟩ := newO X5 hx hZ hown (hw _ (List.mem_of_getElem? (i := 51) rfl)) (hw _ (List.mem_of_getElem? (i := 52) rfl)) (hw _ (List.mem_of_getElem? (i := 53) rfl)) e5 (g := (mkF m 90 #[.val (.ref xthis), .val (.long xt), .second, .unset, .val (.long v38), .second, .val (.int (1 : Int32)), .val (.long (9223372036854775807 : Int64)), .second, .unset, .unset, .unset] [])) rfl (hb hby own_d6_90) (by decide) (by decide)
    obtain ⟨b8, g8⟩ : ∃ z, z = h0.size := ⟨_, rfl⟩
    rw [← g8] at A8 D8 st8
    have ne_xthis_b8 : xthis ≠ b8 := Nat.ne_of_lt (Nat.lt_of_lt_of_le F_recordTime_xthis.lt (Nat.le_of_eq g8.symm))
    have ne_xty_b8 : xty ≠ b8 := Nat.ne_of_lt (Nat.lt_of_lt_of_le F_ordinal_xty.lt (Nat.le_of_eq g8.symm))
    have g_b8 : n0 ≤ b8 := Nat.le_trans Z0 (Nat.le_of_eq g8.symm)
    have sz_b8 : h0.size ≤ b8 := Nat.le_trans K0.1 (Nat.le_of_eq g8.symm)
    have K8 : Keep h0 h8 [] := K0.ext E8
    have F9 : Fld Z h8 xthis "com/example/tracebook/tracebook/model/Paging" "type" "Lcom/example/tracebook/tracebook/model/Paging$Type;" (.ref xty) := F_type_xthis.ext E8
    have F10 : Exa Z h8 xty "com/example/tracebook/tracebook/model/Paging$Type" := E_xty.ext E8
    have F11 : Fld Z h8 xty "java/lang/Enum" "ordinal" "I" (.int (0 : Int32)) := F_ordinal_xty.ext E8
    have F12 : Fld Z h8 xthis "com/example/tracebook/tracebook/model/Paging" "pageSize" "I" (.int xsz) := F_pageSize_xthis.ext E8
    have F13 : Fld Z h8 xthis "com/example/tracebook/tracebook/model/Paging" "pageIndex" "J" (.long xix) := F_pageIndex_xthis.ext E8
    have F14 : Fld Z h8 xthis "com/example/tracebook/tracebook/model/Paging" "recordTime" "J" (.long xti) := F_recordTime_xthis.ext E8
    have Z8 : n0 ≤ h8.size := Nat.le_trans Z0 E8.1
    have F15 : Fld Z h8 b8 "com/example/tracebook/tracebook/model/Paging$Walk" "backward" "Z" (.int (0 : Int32)) := D8 (Or.inr (hw _ (List.mem_of_getElem? (i := 59) rfl))) (ty := .boolean) (by decide)
    have F16 : Fld Z h8 b8 "com/example/tracebook/tracebook/model/Paging$Walk" "from" "J" (.long (0 : Int64)) := D8 (Or.inr (hw _ (List.mem_of_getElem? (i := 61) rfl))) (ty := .long) (by decide)
    have F17 : Fld Z h8 b8 "com/example/tracebook/tracebook/model/Paging$Walk" "skip" "J" (.long (0 : Int64)) := D8 (Or.inr (hw _ (List.mem_of_getElem? (i := 63) rfl))) (ty := .long) (by decide)
    have F18 : Fld Z h8 b8 "com/example/tracebook/tracebook/model/Paging$Walk" "take" "I" (.int (0 : Int32)) := D8 (Or.inr (hw _ (List.mem_of_getElem? (i := 65) rfl))) (ty := .int) (by decide)
    obtain ⟨_, _, ⟨T19, L19, k19, n19⟩, -, X19, ⟨Lc19, hQ19, l19, y19, z19⟩, st19⟩ := X8.specialBack hx (y := (⟨"com/example/tracebook/tracebook/model/Paging$Walk", "<init>", "(ZJJI)V"⟩ : MethodName)) rfl hown (mvT hZ (hw _ (List.mem_of_getElem? (i := 54) rfl))) (mvT hZ (hw _ (List.mem_of_getElem? (i := 55) rfl))) (mvT hZ (hw _ (List.mem_of_getElem? (i := 56) rfl))) (by decide) (backOf (W := 1) (own_rm8_0 l Z a0 hw [] b8 (0 : Int64) (0 : Int64) (0 : Int32) h8 n0 Z8 A8 F15 F16 F17 F18 g_b8) hZ (hw _ (List.mem_of_getElem? (i := 56) rfl)) (hw _ (List.mem_of_getElem? (i := 53) rfl)) (by decide) (by decide)) (g := (mkF m 98 #[.val (.ref xthis), .val (.long xt), .second, .unset, .val (.long v38), .second, .val (.int (1 : Int32)), .val (.long (9223372036854775807 : Int64)), .second, .unset, .unset, .unset] [(.int (0 : Int32)), (.long (0 : Int64)), (.long (0 : Int64)), (.int (0 : Int32)), (.ref b8), (.ref b8)])) rfl (by rw [hml]; rfl) (Steps.refl _) (a := b8) (argsL := [(.int (0 : Int32)), (.long (0 : Int64)), (.long (0 : Int64)), (.int (0 : Int32))]) (rest := [(.ref b8)]) (lenOf own_pd2 rfl) rfl (by show 2 * 0 + _ ≤ _; exact Nat.le_of_eq rfl) (hb hby own_d6_98) (fun _ _ => ⟨rfl, e8, (by decide : 1 + 0 ≤ _), (by decide : 4 + 0 ≤ _)⟩)
    dsimp only [Pt.U, Pt.locs, Pt.cells, Pt.slots] at X19 l19 y19 z19 st19 hQ19
    subst l19 y19 z19
    obtain ⟨rfl, N19q, K19q, F20, F21, F22, F23, F24⟩ := hQ19
    have K19 := K19q
    have KK19 : Keep h0 T19.heap [] := K8.trans K19 (allS (Or.inr sz_b8) all0)
    have F25 : Fld Z T19.heap xthis "com/example/tracebook/tracebook/model/Paging" "type" "Lcom/example/tracebook/tracebook/model/Paging$Type;" (.ref xty) := F9.keep K19 (ninS ne_xthis_b8 nin0)
    have F26 : Exa Z T19.heap xty "com/example/tracebook/tracebook/model/Paging$Type" := F10.keep K19
    have F27 : Fld Z T19.heap xty "java/lang/Enum" "ordinal" "I" (.int (0 : Int32)) := F11.keep K19 (ninS ne_xty_b8 nin0)
    have F28 : Fld Z T19.heap xthis "com/example/tracebook/tracebook/model/Paging" "pageSize" "I" (.int xsz) := F12.keep K19 (ninS ne_xthis_b8 nin0)
    have F29 : Fld Z T19.heap xthis "com/example/tracebook/tracebook/model/Paging" "pageIndex" "J" (.long xix) := F13.keep K19 (ninS ne_xthis_b8 nin0)
    have F30 : Fld Z T19.heap xthis "com/example/tracebook/tracebook/model/Paging" "recordTime" "J" (.long xti) := F14.keep K19 (ninS ne_xthis_b8 nin0)
    have F31 : Exa Z T19.heap b8 "com/example/tracebook/tracebook/model/Paging$Walk" := A8.keep K19
    have Z19 : n0 ≤ T19.heap.size := Nat.le_trans Z8 K19.1
    have N19 := Fr.app N2 N19q
    obtain ⟨fs, hr, hrun, hended, hW, hsame⟩ := X19.leave (v := some (.ref b8)) (fun h => by rw [Bd.returns] at h; cases h)
    have ev32 : (own_bw xix xsz xt) = (0 : Int32) := by
      unfold own_bw
      rw [e1, if_neg hn87]
    have ev33 : (own_sk xix xsz xt) = (0 : Int64) := by
      unfold own_sk
      rw [e1, if_neg hn87]
    have ev34 : (own_tk xix xsz xt) = (0 : Int32) := by
      unfold own_tk
      rw [e1, if_neg hn87]
    refine ⟨_, _, pre6 _ ?_, hrun, hended, _, _, rfl, ?_, ⟨_, rfl⟩, hW, hsame.mono (by decide) (by decide)⟩
    · show Steps p.tables e below (T5.setTop (mkF m 52 #[.val (.ref xthis), .val (.long xt), .second, .unset, .val (.long v38), .second, .unset, .unset, .unset, .unset, .unset, .unset] [(.int (lcmpW v38 ((9223372036854775807 : Int64) / (xsz.toInt64))))])) _
      refine XS.ifNo X5.here hx rfl (hb hby own_d6_52) rfl ((if0 _ _).trans (tlt ((lw_gt v38 ((9223372036854775807 : Int64) / (xsz.toInt64))).mpr hc52)).2.2.2) ?_
      show Steps p.tables e below (T5.setTop (mkF m 55 #[.val (.ref xthis), .val (.long xt), .second, .unset, .val (.long v38), .second, .unset, .unset, .unset, .unset, .unset, .unset] [])) _
      refine XS.iconst X5.here hx rfl (hb hby own_d6_55) ?_
      show Steps p.tables e below (T5.setTop (mkF m 56 #[.val (.ref xthis), .val (.long xt), .second, .unset, .val (.long v38), .second, .unset, .unset, .unset, .unset, .unset, .unset] [(.int (1 : Int32))])) _
      refine XS.goto X5.here hx rfl (pc0 := 56) (pc' := 60) rfl (hb hby own_d6_56) (by decide) (by decide) ?_
      show Steps p.tables e below (T5.setTop (mkF m 60 #[.val (.ref xthis), .val (.long xt), .second, .unset, .val (.long v38), .second, .unset, .unset, .unset, .unset, .unset, .unset] [(.int (1 : Int32))])) _
      refine XS.istore X5.here hx rfl (hb hby own_d6_60) rfl (l' := #[.val (.ref xthis), .val (.long xt), .second, .unset, .val (.long v38), .second, .val (.int (1 : Int32)), .unset, .unset, .unset, .unset, .unset]) rfl ?_
      show Steps p.tables e below (T5.setTop (mkF m 62 #[.val (.ref xthis), .val (.long xt), .second, .unset, .val (.long v38), .second, .val (.int (1 : Int32)), .unset, .unset, .unset, .unset, .unset] [])) _
      refine XS.iload X5.here hx rfl (hb hby own_d6_62) rfl ?_
      show Steps p.tables e below (T5.setTop (mkF m 64 #[.val (.ref xthis), .val (.long xt), .second, .unset, .val (.long v38), .second, .val (.int (1 : Int32)), .unset, .unset, .unset, .unset, .unset] [(.int (1 : Int32))])) _
      refine XS.ifNo X5.here hx rfl (hb hby own_d6_64) rfl ((if0 _ _).trans (feq hd7).1) ?_
      show Steps p.tables e below (T5.setTop (mkF m 67 #[.val (.ref xthis), .val (.long xt), .second, .unset, .val (.long v38), .second, .val (.int (1 : Int32)), .unset, .unset, .unset, .unset, .unset] [])) _
      refine X5.ldc2Long hx hown (mvT hZ (hw _ (List.mem_of_getElem? (i := 50) rfl))) (g := (mkF m 67 #[.val (.ref xthis), .val (.long xt), .second, .unset, .val (.long v38), .second, .val (.int (1 : Int32)), .unset, .unset, .unset, .unset, .unset] [])) rfl (hb hby own_d6_67) _ ?_
      show Steps p.tables e below (T5.setTop (mkF m 70 #[.val (.ref xthis), .val (.long xt), .second, .unset, .val (.long v38), .second, .val (.int (1 : Int32)), .unset, .unset, .unset, .unset, .unset] [(.long (9223372036854775807 : Int64))])) _
      refine XS.goto X5.here hx rfl (pc0 := 70) (pc' := 81) rfl (hb hby own_d6_70) (by decide) (by decide) ?_
      show Steps p.tables e below (T5.setTop (mkF m 81 #[.val (.ref xthis), .val (.long xt), .second, .unset, .val (.long v38), .second, .val (.int (1 : Int32)), .unset, .unset, .unset, .unset, .unset] [(.long (9223372036854775807 : Int64))])) _
      refine XS.lstore X5.here hx rfl (hb hby own_d6_81) rfl (l' := #[.val (.ref xthis), .val (.long xt), .second, .unset, .val (.long v38), .second, .val (.int (1 : Int32)), .val (.long (9223372036854775807 : Int64)), .second, .unset, .unset, .unset]) rfl ?_
      show Steps p.tables e below (T5.setTop (mkF m 83 #[.val (.ref xthis), .val (.long xt), .second, .unset, .val (.long v38), .second, .val (.int (1 : Int32)), .val (.long (9223372036854775807 : Int64)), .second, .unset, .unset, .unset] [])) _
      refine XS.lload X5.here hx rfl (hb hby own_d6_83) rfl ?_
      show Steps p.tables e below (T5.setTop (mkF m 85 #[.val (.ref xthis), .val (.long xt), .second, .unset, .val (.long v38), .second, .val (.int (1 : Int32)), .val (.long (9223372036854775807 : Int64)), .second, .unset, .unset, .unset] [(.long (9223372036854775807 : Int64))])) _
      refine XS.lloadN X5.here hx rfl (hb hby own_d6_85) rfl ?_
      show Steps p.tables e below (T5.setTop (mkF m 86 #[.val (.ref xthis), .val (.long xt), .second, .unset, .val (.long v38), .second, .val (.int (1 : Int32)), .val (.long (9223372036854775807 : Int64)), .second, .unset, .unset, .unset] [(.long xt), (.long (9223372036854775807 : Int64))])) _
      refine XS.lcmp X5.here hx rfl (hb hby own_d6_86) rfl ?_
      show Steps p.tables e below (T5.setTop (mkF m 87 #[.val (.ref xthis), .val (.long xt), .second, .unset, .val (.long v38), .second, .val (.int (1 : Int32)), .val (.long (9223372036854775807 : Int64)), .second, .unset, .unset, .unset] [(.int (lcmpW (9223372036854775807 : Int64) xt))])) _
      refine XS.ifNo X5.here hx rfl (hb hby own_d6_87) rfl ((if0 _ _).trans (flt (fun z => hn87 ((lw_lt (9223372036854775807 : Int64) xt).mp z))).1) ?_
      show Steps p.tables e below (T5.setTop (mkF m 90 #[.val (.ref xthis), .val (.long xt), .second, .unset, .val (.long v38), .second, .val (.int (1 : Int32)), .val (.long (9223372036854775807 : Int64)), .second, .unset, .unset, .unset] [])) _
      refine st8 _ ?_
      show Steps p.tables e below (T8.setTop (mkF m 93 #[.val (.ref xthis), .val (.long xt), .second, .unset, .val (.long v38), .second, .val (.int (1 : Int32)), .val (.long (9223372036854775807 : Int64)), .second, .unset, .unset, .unset] [(.ref b8)])) _
      refine XS.dup X8.here hx rfl (hb hby own_d6_93) rfl rfl ?_
      show Steps p.tables e below (T8.setTop (mkF m 94 #[.val (.ref xthis), .val (.long xt), .second, .unset, .val (.long v38), .second, .val (.int (1 : Int32)), .val (.long (9223372036854775807 : Int64)), .second, .unset, .unset, .unset] [(.ref b8), (.ref b8)])) _
      refine XS.iconst X8.here hx rfl (hb hby own_d6_94) ?_
      show Steps p.tables e below (T8.setTop (mkF m 95 #[.val (.ref xthis), .val (.long xt), .second, .unset, .val (.long v38), .second, .val (.int (1 : Int32)), .val (.long (9223372036854775807 : Int64)), .second, .unset, .unset, .unset] [(.int (0 : Int32)), (.ref b8), (.ref b8)])) _
      refine XS.lconst X8.here hx rfl (hb hby own_d6_95) ?_
      show Steps p.tables e below (T8.setTop (mkF m 96 #[.val (.ref xthis), .val (.long xt), .second, .unset, .val (.long v38), .second, .val (.int (1 : Int32)), .val (.long (9223372036854775807 : Int64)), .second, .unset, .unset, .unset] [(.long (0 : Int64)), (.int (0 : Int32)), (.ref b8), (.ref b8)])) _
      refine XS.lconst X8.here hx rfl (hb hby own_d6_96) ?_
      show Steps p.tables e below (T8.setTop (mkF m 97 #[.val (.ref xthis), .val (.long xt), .second, .unset, .val (.long v38), .second, .val (.int (1 : Int32)), .val (.long (9223372036854775807 : Int64)), .second, .unset, .unset, .unset] [(.long (0 : Int64)), (.long (0 : Int64)), (.int (0 : Int32)), (.ref b8), (.ref b8)])) _
      refine XS.iconst X8.here hx rfl (hb hby own_d6_97) ?_
      show Steps p.tables e below (T8.setTop (mkF m 98 #[.val (.ref xthis), .val (.long xt), .second, .unset, .val (.long v38), .second, .val (.int (1 : Int32)), .val (.long (9223372036854775807 : Int64)), .second, .unset, .unset, .unset] [(.int (0 : Int32)), (.long (0 : Int64)), (.long (0 : Int64)), (.int (0 : Int32)), (.ref b8), (.ref b8)])) _
      refine st19.trans ?_
      show Steps p.tables e below (T19.setTop (mkF m 101 #[.val (.ref xthis), .val (.long xt), .second, .unset, .val (.long v38), .second, .val (.int (1 : Int32)), .val (.long (9223372036854775807 : Int64)), .second, .unset, .unset, .unset] [(.ref b8)])) _
      refine XS.astoreN X19.here hx rfl (hb hby own_d6_101) rfl rfl (l' := #[.val (.ref xthis), .val (.long xt), .second, .val (.ref b8), .val (.long v38), .second, .val (.int (1 : Int32)), .val (.long (9223372036854775807 : Int64)), .second, .unset, .unset, .unset]) rfl ?_
      show Steps p.tables e below (T19.setTop (mkF m 102 #[.val (.ref xthis), .val (.long xt), .second, .val (.ref b8), .val (.long v38), .second, .val (.int (1 : Int32)), .val (.long (9223372036854775807 : Int64)), .second, .unset, .unset, .unset] [])) _
      refine XS.goto X19.here hx rfl (pc0 := 102) (pc' := 168) rfl (hb hby own_d6_102) (by decide) (by decide) ?_
      show Steps p.tables e below (T19.setTop (mkF m 168 #[.val (.ref xthis), .val (.long xt), .second, .val (.ref b8), .val (.long v38), .second, .val (.int (1 : Int32)), .val (.long (9223372036854775807 : Int64)), .second, .unset, .unset, .unset] [])) _
      refine XS.goto X19.here hx rfl (pc0 := 168) (pc' := 233) rfl (hb hby own_d6_168) (by decide) (by decide) ?_
      show Steps p.tables e below (T19.setTop (mkF m 233 #[.val (.ref xthis), .val (.long xt), .second, .val (.ref b8), .val (.long v38), .second, .val (.int (1 : Int32)), .val (.long (9223372036854775807 : Int64)), .second, .unset, .unset, .unset] [])) _
      refine XS.aloadN X19.here hx rfl (hb hby own_d6_233) rfl rfl ?_
      show Steps p.tables e below (T19.setTop (mkF m 234 #[.val (.ref xthis), .val (.long xt), .second, .val (.ref b8), .val (.long v38), .second, .val (.int (1 : Int32)), .val (.long (9223372036854775807 : Int64)), .second, .unset, .unset, .unset] [(.ref b8)])) _
      exact retA X19 hx Bd.returns rfl rfl rfl (hb hby own_d6_234) hr
    · show own_Q6_0 Z xthis xt xty xsz xix xti h0 n0 _ T19.heap _
      exact ⟨b8, rfl, N19, KK19, sz_b8, F20.lt, F20, (by rw [ev32]; exact F21), F22, (by rw [ev33]; exact F23), (by rw [ev34]; exact F24)⟩
  · obtain ⟨T35, X35, e35, st35⟩ := getF X5 hx hZ hown (host := "") (Or.inl (hw _ (List.mem_of_getElem? (i := 30) rfl))) Via.refl e5 F_pageSize_xthis (g := (mkF m 76 #[.val (.ref xthis), .val (.long xt), .second, .unset, .val (.long v38), .second, .val (.int (0 : Int32)), .unset, .unset, .unset, .unset, .unset] [(.ref xthis), (.long v38)])) rfl rfl (hb hby own_d6_76)
    obtain ⟨v81, hv81⟩ : ∃ w : Int64, w = (v38 * (xsz.toInt64)) := ⟨_, rfl⟩
    have pre36 : ∀ t, Steps p.tables e below (T35.setTop (mkF m 83 #[.val (.ref xthis), .val (.long xt), .second, .unset, .val (.long v38), .second, .val (.int (0 : Int32)), .val (.long v81), .second, .unset, .unset, .unset] [])) t → Steps p.tables e below (s₁.setTop (entryFrame m #[(.ref xthis), (.long xt)] 12)) t := by
      intro t k
      rw [hv81] at k
      refine pre6 _ ?_
      show Steps p.tables e below (T5.setTop (mkF m 52 #[.val (.ref xthis), .val (.long xt), .second, .unset, .val (.long v38), .second, .unset, .unset, .unset, .unset, .unset, .unset] [(.int (lcmpW v38 ((9223372036854775807 : Int64) / (xsz.toInt64))))])) _
      refine XS.ifYes X5.here hx rfl (pc0 := 52) (pc' := 59) rfl (hb hby own_d6_52) rfl ((if0 _ _).trans (flt (fun z => hc52 ((lw_gt v38 ((9223372036854775807 : Int64) / (xsz.toInt64))).mp z))).2.2.2) (by decide) (by decide) ?_
      show Steps p.tables e below (T5.setTop (mkF m 59 #[.val (.ref xthis), .val (.long xt), .second, .unset, .val (.long v38), .second, .unset, .unset, .unset, .unset, .unset, .unset] [])) _
      refine XS.iconst X5.here hx rfl (hb hby own_d6_59) ?_
      show Steps p.tables e below (T5.setTop (mkF m 60 #[.val (.ref xthis), .val (.long xt), .second, .unset, .val (.long v38), .second, .unset, .unset, .unset, .unset, .unset, .unset] [(.int (0 : Int32))])) _
      refine XS.istore X5.here hx rfl (hb hby own_d6_60) rfl (l' := #[.val (.ref xthis), .val (.long xt), .second, .unset, .val (.long v38), .second, .val (.int (0 : Int32)), .unset, .unset, .unset, .unset, .unset]) rfl ?_
      show Steps p.tables e below (T5.setTop (mkF m 62 #[.val (.ref xthis), .val (.long xt), .second, .unset, .val (.long v38), .second, .val (.int (0 : Int32)), .unset, .unset, .unset, .unset, .unset] [])) _
      refine XS.iload X5.here hx rfl (hb hby own_d6_62) rfl ?_
      show Steps p.tables e below (T5.setTop (mkF m 64 #[.val (.ref xthis), .val (.long xt), .second, .unset, .val (.long v38), .second, .val (.int (0 : Int32)), .unset, .unset, .unset, .unset, .unset] [(.int (0 : Int32))])) _
      refine XS.ifYes X5.here hx rfl (pc0 := 64) (pc' := 73) rfl (hb hby own_d6_64) rfl ((if0 _ _).trans (teq rfl).1) (by decide) (by decide) ?_
      show Steps p.tables e below (T5.setTop (mkF m 73 #[.val (.ref xthis), .val (.long xt), .second, .unset, .val (.long v38), .second, .val (.int (0 : Int32)), .unset, .unset, .unset, .unset, .unset] [])) _
      refine XS.lload X5.here hx rfl (hb hby own_d6_73) rfl ?_
      show Steps p.tables e below (T5.setTop (mkF m 75 #[.val (.ref xthis), .val (.long xt), .second, .unset, .val (.long v38), .second, .val (.int (0 : Int32)), .unset, .unset, .unset, .unset, .unset] [(.long v38)])) _
      refine XS.aloadN X5.here hx rfl (hb hby own_d6_75) rfl rfl ?_
      show Steps p.tables e below (T5.setTop (mkF m 76 #[.val (.ref xthis), .val (.long xt), .second, .unset, .val (.long v38), .second, .val (.int (0 : Int32)), .unset, .unset, .unset, .unset, .unset] [(.ref xthis), (.long v38)])) _
      refine st35 _ ?_
      show Steps p.tables e below (T35.setTop (mkF m 79 #[.val (.ref xthis), .val (.long xt), .second, .unset, .val (.long v38), .second, .val (.int (0 : Int32)), .unset, .unset, .unset, .unset, .unset] [(.int xsz), (.long v38)])) _
      refine XS.i2l X35.here hx rfl (hb hby own_d6_79) rfl ?_
      show Steps p.tables e below (T35.setTop (mkF m 80 #[.val (.ref xthis), .val (.long xt), .second, .unset, .val (.long v38), .second, .val (.int (0 : Int32)), .unset, .unset, .unset, .unset, .unset] [(.long (xsz.toInt64)), (.long v38)])) _
      refine XS.lmul X35.here hx rfl (hb hby own_d6_80) rfl ?_
      show Steps p.tables e below (T35.setTop (mkF m 81 #[.val (.ref xthis), .val (.long xt), .second, .unset, .val (.long v38), .second, .val (.int (0 : Int32)), .unset, .unset, .unset, .unset, .unset] [(.long (v38 * (xsz.toInt64)))])) _
      refine XS.lstore X35.here hx rfl (hb hby own_d6_81) rfl (l' := #[.val (.ref xthis), .val (.long xt), .second, .unset, .val (.long v38), .second, .val (.int (0 : Int32)), .val (.long (v38 * (xsz.toInt64))), .second, .unset, .unset, .unset]) rfl ?_
      exact k
    have e1 : own_st xix xsz = v81 := by unfold own_st; rw [← hv38, if_neg hc52, hv81]
    have pre37 : ∀ t, Steps p.tables e below (T35.setTop (mkF m 87 #[.val (.ref xthis), .val (.long xt), .second, .unset, .val (.long v38), .second, .val (.int (0 : Int32)), .val (.long v81), .second, .unset, .unset, .unset] [(.int (lcmpW v81 xt))])) t → Steps p.tables e below (s₁.setTop (entryFrame m #[(.ref xthis), (.long xt)] 12)) t := by
      intro t k
      refine pre36 _ ?_
      show Steps p.tables e below (T35.setTop (mkF m 83 #[.val (.ref xthis), .val (.long xt), .second, .unset, .val (.long v38), .second, .val (.int (0 : Int32)), .val (.long v81), .second, .unset, .unset, .unset] [])) _
      refine XS.lload X35.here hx rfl (hb hby own_d6_83) rfl ?_
      show Steps p.tables e below (T35.setTop (mkF m 85 #[.val (.ref xthis), .val (.long xt), .second, .unset, .val (.long v38), .second, .val (.int (0 : Int32)), .val (.long v81), .second, .unset, .unset, .unset] [(.long v81)])) _
      refine XS.lloadN X35.here hx rfl (hb hby own_d6_85) rfl ?_
      show Steps p.tables e below (T35.setTop (mkF m 86 #[.val (.ref xthis), .val (.long xt), .second, .unset, .val (.long v38), .second, .val (.int (0 : Int32)), .val (.long v81), .second, .unset, .unset, .unset] [(.long xt), (.long v81)])) _
      refine XS.lcmp X35.here hx rfl (hb hby own_d6_86) rfl ?_
      exact k
    by_cases hc87 : v81 < xt
    · obtain ⟨T38, X38, e38, st38⟩ := getF X35 hx hZ hown (host := "") (Or.inl (hw _ (List.mem_of_getElem? (i := 30) rfl))) Via.refl e35 F_pageSize_xthis (g := (mkF m 106 #[.val (.ref xthis), .val (.long xt), .second, .unset, .val (.long v38), .second, .val (.int (0 : Int32)), .val (.long v81), .second, .unset, .unset, .unset] [(.ref xthis)])) rfl rfl (hb hby own_d6_106)
      obtain ⟨_, _, ⟨T39, L39, k39, n39⟩, -, X39, ⟨Lc39, hQ39, l39, y39, z39⟩, st39⟩ := Jvm.LawKit.callS X38 hx (y := (⟨"java/lang/Math", "min", "(JJ)J"⟩ : MethodName)) hown (mvT hZ (hw _ (List.mem_of_getElem? (i := 90) rfl))) (mvT hZ (hw _ (List.mem_of_getElem? (i := 91) rfl))) (mvT hZ (hw _ (List.mem_of_getElem? (i := 4) rfl))) (mvT hZ (hw _ (List.mem_of_getElem? (i := 92) rfl))) (by decide) (backOf (W := 0) (own_rm13 l Z a0 hw [] (xsz.toInt64) (xt - v81) h0 n0 Z0 ) hZ (hw _ (List.mem_of_getElem? (i := 92) rfl)) (hw _ (List.mem_of_getElem? (i := 4) rfl)) (by decide) (by decide)) (g := (mkF m 114 #[.val (.ref xthis), .val (.long xt), .second, .unset, .val (.long v38), .second, .val (.int (0 : Int32)), .val (.long v81), .second, .unset, .unset, .unset] [(.long (xt - v81)), (.long (xsz.toInt64))])) rfl (by rw [hml]; rfl) (argsL := [(.long (xsz.toInt64)), (.long (xt - v81))]) (rest := []) (lenOf own_pd3 rfl) rfl (by show 2 * 0 + _ ≤ _; exact Nat.le_of_eq rfl) (hb hby own_d6_114) (fun _ _ => ⟨rfl, e38, (by decide : 0 + 0 ≤ _), (by decide : 0 + 0 ≤ _)⟩)
      dsimp only [Pt.U, Pt.locs, Pt.cells, Pt.slots] at X39 l39 y39 z39 st39 hQ39
      subst l39 y39 z39
      obtain ⟨rfl, N39q, eh39⟩ := hQ39
      have N39 := Fr.app N2 N39q
      obtain ⟨v118, hv118⟩ : ∃ w : Int32, w = ((own_minL (xsz.toInt64) (xt - v81)).toInt32) := ⟨_, rfl⟩
      have pre40 : ∀ t, Steps p.tables e below (T39.setTop (mkF m 120 #[.val (.ref xthis), .val (.long xt), .second, .unset, .val (.long v38), .second, .val (.int (0 : Int32)), .val (.long v81), .second, .val (.int v118), .unset, .unset] [])) t → Steps p.tables e below (s₁.setTop (entryFrame m #[(.ref xthis), (.long xt)] 12)) t := by
        intro t k
        rw [hv118] at k
        refine pre37 _ ?_
        show Steps p.tables e below (T35.setTop (mkF m 87 #[.val (.ref xthis), .val (.long xt), .second, .unset, .val (.long v38), .second, .val (.int (0 : Int32)), .val (.long v81), .second, .unset, .unset, .unset] [(.int (lcmpW v81 xt))])) _
        refine XS.ifYes X35.here hx rfl (pc0 := 87) (pc' := 105) rfl (hb hby own_d6_87) rfl ((if0 _ _).trans (tlt ((lw_lt v81 xt).mpr hc87)).1) (by decide) (by decide) ?_
        show Steps p.tables e below (T35.setTop (mkF m 105 #[.val (.ref xthis), .val (.long xt), .second, .unset, .val (.long v38), .second, .val (.int (0 : Int32)), .val (.long v81), .second, .unset, .unset, .unset] [])) _
        refine XS.aloadN X35.here hx rfl (hb hby own_d6_105) rfl rfl ?_
        show Steps p.tables e below (T35.setTop (mkF m 106 #[.val (.ref xthis), .val (.long xt), .second, .unset, .val (.long v38), .second, .val (.int (0 : Int32)), .val (.long v81), .second, .unset, .unset, .unset] [(.ref xthis)])) _
        refine st38 _ ?_
        show Steps p.tables e below (T38.setTop (mkF m 109 #[.val (.ref xthis), .val (.long xt), .second, .unset, .val (.long v38), .second, .val (.int (0 : Int32)), .val (.long v81), .second, .unset, .unset, .unset] [(.int xsz)])) _
        refine XS.i2l X38.here hx rfl (hb hby own_d6_109) rfl ?_
        show Steps p.tables e below (T38.setTop (mkF m 110 #[.val (.ref xthis), .val (.long xt), .second, .unset, .val (.long v38), .second, .val (.int (0 : Int32)), .val (.long v81), .second, .unset, .unset, .unset] [(.long (xsz.toInt64))])) _
        refine XS.lloadN X38.here hx rfl (hb hby own_d6_110) rfl ?_
        show Steps p.tables e below (T38.setTop (mkF m 111 #[.val (.ref xthis), .val (.long xt), .second, .unset, .val (.long v38), .second, .val (.int (0 : Int32)), .val (.long v81), .second, .unset, .unset, .unset] [(.long xt), (.long (xsz.toInt64))])) _
        refine XS.lload X38.here hx rfl (hb hby own_d6_111) rfl ?_
        show Steps p.tables e below (T38.setTop (mkF m 113 #[.val (.ref xthis), .val (.long xt), .second, .unset, .val (.long v38), .second, .val (.int (0 : Int32)), .val (.long v81), .second, .unset, .unset, .unset] [(.long v81), (.long xt), (.long (xsz.toInt64))])) _
        refine XS.lsub X38.here hx rfl (hb hby own_d6_113) rfl ?_
        show Steps p.tables e below (T38.setTop (mkF m 114 #[.val (.ref xthis), .val (.long xt), .second, .unset, .val (.long v38), .second, .val (.int (0 : Int32)), .val (.long v81), .second, .unset, .unset, .unset] [(.long (xt - v81)), (.long (xsz.toInt64))])) _
        refine st39 _ ?_
        show Steps p.tables e below (T39.setTop (mkF m 117 #[.val (.ref xthis), .val (.long xt), .second, .unset, .val (.long v38), .second, .val (.int (0 : Int32)), .val (.long v81), .second, .unset, .unset, .unset] [(.long (own_minL (xsz.toInt64) (xt - v81)))])) _
        refine XS.l2i X39.here hx rfl (hb hby own_d6_117) rfl ?_
        show Steps p.tables e below (T39.setTop (mkF m 118 #[.val (.ref xthis), .val (.long xt), .second, .unset, .val (.long v38), .second, .val (.int (0 : Int32)), .val (.long v81), .second, .unset, .unset, .unset] [(.int ((own_minL (xsz.toInt64) (xt - v81)).toInt32))])) _
        refine XS.istore X39.here hx rfl (hb hby own_d6_118) rfl (l' := #[.val (.ref xthis), .val (.long xt), .second, .unset, .val (.long v38), .second, .val (.int (0 : Int32)), .val (.long v81), .second, .val (.int ((own_minL (xsz.toInt64) (xt - v81)).toInt32)), .unset, .unset]) rfl ?_
        exact k
      have e2 : own_tk xix xsz xt = v118 := by unfold own_tk; rw [e1, if_pos hc87, hv118]
      obtain ⟨v128, hv128⟩ : ∃ w : Int64, w = ((xt - v81) - (v118.toInt64)) := ⟨_, rfl⟩
      have pre41 : ∀ t, Steps p.tables e below (T39.setTop (mkF m 130 #[.val (.ref xthis), .val (.long xt), .second, .unset, .val (.long v38), .second, .val (.int (0 : Int32)), .val (.long v81), .second, .val (.int v118), .val (.long v128), .second] [])) t → Steps p.tables e below (s₁.setTop (entryFrame m #[(.ref xthis), (.long xt)] 12)) t := by
        intro t k
        rw [hv128] at k
        refine pre40 _ ?_
        show Steps p.tables e below (T39.setTop (mkF m 120 #[.val (.ref xthis), .val (.long xt), .second, .unset, .val (.long v38), .second, .val (.int (0 : Int32)), .val (.long v81), .second, .val (.int v118), .unset, .unset] [])) _
        refine XS.lloadN X39.here hx rfl (hb hby own_d6_120) rfl ?_
        show Steps p.tables e below (T39.setTop (mkF m 121 #[.val (.ref xthis), .val (.long xt), .second, .unset, .val (.long v38), .second, .val (.int (0 : Int32)), .val (.long v81), .second, .val (.int v118), .unset, .unset] [(.long xt)])) _
        refine XS.lload X39.here hx rfl (hb hby own_d6_121) rfl ?_
        show Steps p.tables e below (T39.setTop (mkF m 123 #[.val (.ref xthis), .val (.long xt), .second, .unset, .val (.long v38), .second, .val (.int (0 : Int32)), .val (.long v81), .second, .val (.int v118), .unset, .unset] [(.long v81), (.long xt)])) _
        refine XS.lsub X39.here hx rfl (hb hby own_d6_123) rfl ?_
        show Steps p.tables e below (T39.setTop (mkF m 124 #[.val (.ref xthis), .val (.long xt), .second, .unset, .val (.long v38), .second, .val (.int (0 : Int32)), .val (.long v81), .second, .val (.int v118), .unset, .unset] [(.long (xt - v81))])) _
        refine XS.iload X39.here hx rfl (hb hby own_d6_124) rfl ?_
        show Steps p.tables e below (T39.setTop (mkF m 126 #[.val (.ref xthis), .val (.long xt), .second, .unset, .val (.long v38), .second, .val (.int (0 : Int32)), .val (.long v81), .second, .val (.int v118), .unset, .unset] [(.int v118), (.long (xt - v81))])) _
        refine XS.i2l X39.here hx rfl (hb hby own_d6_126) rfl ?_
        show Steps p.tables e below (T39.setTop (mkF m 127 #[.val (.ref xthis), .val (.long xt), .second, .unset, .val (.long v38), .second, .val (.int (0 : Int32)), .val (.long v81), .second, .val (.int v118), .unset, .unset] [(.long (v118.toInt64)), (.long (xt - v81))])) _
        refine XS.lsub X39.here hx rfl (hb hby own_d6_127) rfl ?_
        show Steps p.tables e below (T39.setTop (mkF m 128 #[.val (.ref xthis), .val (.long xt), .second, .unset, .val (.long v38), .second, .val (.int (0 : Int32)), .val (.long v81), .second, .val (.int v118), .unset, .unset] [(.long ((xt - v81) - (v118.toInt64)))])) _
        refine XS.lstore X39.here hx rfl (hb hby own_d6_128) rfl (l' := #[.val (.ref xthis), .val (.long xt), .second, .unset, .val (.long v38), .second, .val (.int (0 : Int32)), .val (.long v81), .second, .val (.int v118), .val (.long ((xt - v81) - (v118.toInt64))), .second]) rfl ?_
        exact k
      have e3 : own_af xix xsz xt = v128 := by unfold own_af; rw [e1, e2, hv128]
      have pre42 : ∀ t, Steps p.tables e below (T39.setTop (mkF m 135 #[.val (.ref xthis), .val (.long xt), .second, .unset, .val (.long v38), .second, .val (.int (0 : Int32)), .val (.long v81), .second, .val (.int v118), .val (.long v128), .second] [(.int (lcmpW v81 v128))])) t → Steps p.tables e below (s₁.setTop (entryFrame m #[(.ref xthis), (.long xt)] 12)) t := by
        intro t k
        refine pre41 _ ?_
        show Steps p.tables e below (T39.setTop (mkF m 130 #[.val (.ref xthis), .val (.long xt), .second, .unset, .val (.long v38), .second, .val (.int (0 : Int32)), .val (.long v81), .second, .val (.int v118), .val (.long v128), .second] [])) _
        refine XS.lload X39.here hx rfl (hb hby own_d6_130) rfl ?_
        show Steps p.tables e below (T39.setTop (mkF m 132 #[.val (.ref xthis), .val (.long xt), .second, .unset, .val (.long v38), .second, .val (.int (0 : Int32)), .val (.long v81), .second, .val (.int v118), .val (.long v128), .second] [(.long v81)])) _
        refine XS.lload X39.here hx rfl (hb hby own_d6_132) rfl ?_
        show Steps p.tables e below (T39.setTop (mkF m 134 #[.val (.ref xthis), .val (.long xt), .second, .unset, .val (.long v38), .second, .val (.int (0 : Int32)), .val (.long v81), .second, .val (.int v118), .val (.long v128), .second] [(.long v128), (.long v81)])) _
        refine XS.lcmp X39.here hx rfl (hb hby own_d6_134) rfl ?_
        exact k
      by_cases hc135 : v128 < v81
      · obtain ⟨T43, h43, X43, e43, E43, A43, D43, -, st43⟩ := newO X39 hx hZ hown (hw _ (List.mem_of_getElem? (i := 51) rfl)) (hw _ (List.mem_of_getElem? (i := 52) rfl)) (hw _ (List.mem_of_getElem? (i := 53) rfl)) eh39 (g := (mkF m 154 #[.val (.ref xthis), .val (.long xt), .second, .unset, .val (.long v38), .second, .val (.int (0 : Int32)), .val (.long v81), .second, .val (.int v118), .val (.long v128), .second] [])) rfl (hb hby own_d6_154) (by decide) (by decide)
        obtain ⟨b43, g43⟩ : ∃ z, z = h0.size := ⟨_, rfl⟩
        rw [← g43] at A43 D43 st43
        have ne_xthis_b43 : xthis ≠ b43 := Nat.ne_of_lt (Nat.lt_of_lt_of_le F_recordTime_xthis.lt (Nat.le_of_eq g43.symm))
        have ne_xty_b43 : xty ≠ b43 := Nat.ne_of_lt (Nat.lt_of_lt_of_le F_ordinal_xty.lt (Nat.le_of_eq g43.symm))
        have g_b43 : n0 ≤ b43 := Nat.le_trans Z0 (Nat.le_of_eq g43.symm)
        have sz_b43 : h0.size ≤ b43 := Nat.le_trans K0.1 (Nat.le_of_eq g43.symm)
        have K43 : Keep h0 h43 [] := K0.ext E43
        have F44 : Fld Z h43 xthis "com/example/tracebook/tracebook/model/Paging" "type" "Lcom/example/tracebook/tracebook/model/Paging$Type;" (.ref xty) := F_type_xthis.ext E43
        have F45 : Exa Z h43 xty "com/example/tracebook/tracebook/model/Paging$Type" := E_xty.ext E43
        have F46 : Fld Z h43 xty "java/lang/Enum" "ordinal" "I" (.int (0 : Int32)) := F_ordinal_xty.ext E43
        have F47 : Fld Z h43 xthis "com/example/tracebook/tracebook/model/Paging" "pageSize" "I" (.int xsz) := F_pageSize_xthis.ext E43
        have F48 : Fld Z h43 xthis "com/example/tracebook/tracebook/model/Paging" "pageIndex" "J" (.long xix) := F_pageIndex_xthis.ext E43
        have F49 : Fld Z h43 xthis "com/example/tracebook/tracebook/model/Paging" "recordTime" "J" (.long xti) := F_recordTime_xthis.ext E43
        have Z43 : n0 ≤ h43.size := Nat.le_trans Z0 E43.1
        have F50 : Fld Z h43 b43 "com/example/tracebook/tracebook/model/Paging$Walk" "backward" "Z" (.int (0 : Int32)) := D43 (Or.inr (hw _ (List.mem_of_getElem? (i := 59) rfl))) (ty := .boolean) (by decide)
        have F51 : Fld Z h43 b43 "com/example/tracebook/tracebook/model/Paging$Walk" "from" "J" (.long (0 : Int64)) := D43 (Or.inr (hw _ (List.mem_of_getElem? (i := 61) rfl))) (ty := .long) (by decide)
        have F52 : Fld Z h43 b43 "com/example/tracebook/tracebook/model/Paging$Walk" "skip" "J" (.long (0 : Int64)) := D43 (Or.inr (hw _ (List.mem_of_getElem? (i := 63) rfl))) (ty := .long) (by decide)
        have F53 : Fld Z h43 b43 "com/example/tracebook/tracebook/model/Paging$Walk" "take" "I" (.int (0 : Int32)) := D43 (Or.inr (hw _ (List.mem_of_getElem? (i := 65) rfl))) (ty := .int) (by decide)
        obtain ⟨_, _, ⟨T54, L54, k54, n54⟩, -, X54, ⟨Lc54, hQ54, l54, y54, z54⟩, st54⟩ := X43.specialBack hx (y := (⟨"com/example/tracebook/tracebook/model/Paging$Walk", "<init>", "(ZJJI)V"⟩ : MethodName)) rfl hown (mvT hZ (hw _ (List.mem_of_getElem? (i := 54) rfl))) (mvT hZ (hw _ (List.mem_of_getElem? (i := 55) rfl))) (mvT hZ (hw _ (List.mem_of_getElem? (i := 56) rfl))) (by decide) (backOf (W := 1) (own_rm8_1 l Z a0 hw [] b43 (0 : Int64) v128 v118 h43 n0 Z43 A43 F50 F51 F52 F53 g_b43) hZ (hw _ (List.mem_of_getElem? (i := 56) rfl)) (hw _ (List.mem_of_getElem? (i := 53) rfl)) (by decide) (by decide)) (g := (mkF m 164 #[.val (.ref xthis), .val (.long xt), .second, .unset, .val (.long v38), .second, .val (.int (0 : Int32)), .val (.long v81), .second, .val (.int v118), .val (.long v128), .second] [(.int v118), (.long v128), (.long (0 : Int64)), (.int (1 : Int32)), (.ref b43), (.ref b43)])) rfl (by rw [hml]; rfl) (Steps.refl _) (a := b43) (argsL := [(.int (1 : Int32)), (.long (0 : Int64)), (.long v128), (.int v118)]) (rest := [(.ref b43)]) (lenOf own_pd2 rfl) rfl (by show 2 * 0 + _ ≤ _; exact Nat.le_of_eq rfl) (hb hby own_d6_164) (fun _ _ => ⟨rfl, e43, (by decide : 1 + 0 ≤ _), (by decide : 4 + 0 ≤ _)⟩)
        dsimp only [Pt.U, Pt.locs, Pt.cells, Pt.slots] at X54 l54 y54 z54 st54 hQ54
        subst l54 y54 z54
        obtain ⟨rfl, N54q, K54q, F55, F56, F57, F58, F59⟩ := hQ54
        have K54 := K54q
        have KK54 : Keep h0 T54.heap [] := K43.trans K54 (allS (Or.inr sz_b43) all0)
        have F60 : Fld Z T54.heap xthis "com/example/tracebook/tracebook/model/Paging" "type" "Lcom/example/tracebook/tracebook/model/Paging$Type;" (.ref xty) := F44.keep K54 (ninS ne_xthis_b43 nin0)
        have F61 : Exa Z T54.heap xty "com/example/tracebook/tracebook/model/Paging$Type" := F45.keep K54
        have F62 : Fld Z T54.heap xty "java/lang/Enum" "ordinal" "I" (.int (0 : Int32)) := F46.keep K54 (ninS ne_xty_b43 nin0)
        have F63 : Fld Z T54.heap xthis "com/example/tracebook/tracebook/model/Paging" "pageSize" "I" (.int xsz) := F47.keep K54 (ninS ne_xthis_b43 nin0)
        have F64 : Fld Z T54.heap xthis "com/example/tracebook/tracebook/model/Paging" "pageIndex" "J" (.long xix) := F48.keep K54 (ninS ne_xthis_b43 nin0)
        have F65 : Fld Z T54.heap xthis "com/example/tracebook/tracebook/model/Paging" "recordTime" "J" (.long xti) := F49.keep K54 (ninS ne_xthis_b43 nin0)
        have F66 : Exa Z T54.heap b43 "com/example/tracebook/tracebook/model/Paging$Walk" := A43.keep K54
        have Z54 : n0 ≤ T54.heap.size := Nat.le_trans Z43 K54.1
        have N54 := Fr.app N39 N54q
        obtain ⟨fs, hr, hrun, hended, hW, hsame⟩ := X54.leave (v := some (.ref b43)) (fun h => by rw [Bd.returns] at h; cases h)
        have ev67 : (own_bw xix xsz xt) = (1 : Int32) := by
          unfold own_bw
          rw [e1, if_pos hc87, e3, if_pos hc135]
        have ev68 : (own_sk xix xsz xt) = v128 := by
          unfold own_sk
          rw [e1, if_pos hc87, e3, if_pos hc135]
        have ev69 : (own_tk xix xsz xt) = v118 := by
          exact e2
        refine ⟨_, _, pre42 _ ?_, hrun, hended, _, _, rfl, ?_, ⟨_, rfl⟩, hW, hsame.mono (by decide) (by decide)⟩
        · show Steps p.tables e below (T39.setTop (mkF m 135 #[.val (.ref xthis), .val (.long xt), .second, .unset, .val (.long v38), .second, .val (.int (0 : Int32)), .val (.long v81), .second, .val (.int v118), .val (.long v128), .second] [(.int (lcmpW v81 v128))])) _
          refine XS.ifYes X39.here hx rfl (pc0 := 135) (pc' := 154) rfl (hb hby own_d6_135) rfl ((if0 _ _).trans (tlt ((lw_gt v81 v128).mpr hc135)).2.2.1) (by decide) (by decide) ?_
          show Steps p.tables e below (T39.setTop (mkF m 154 #[.val (.ref xthis), .val (.long xt), .second, .unset, .val (.long v38), .second, .val (.int (0 : Int32)), .val (.long v81), .second, .val (.int v118), .val (.long v128), .second] [])) _
          refine st43 _ ?_
          show Steps p.tables e below (T43.setTop (mkF m 157 #[.val (.ref xthis), .val (.long xt), .second, .unset, .val (.long v38), .second, .val (.int (0 : Int32)), .val (.long v81), .second, .val (.int v118), .val (.long v128), .second] [(.ref b43)])) _
          refine XS.dup X43.here hx rfl (hb hby own_d6_157) rfl rfl ?_
          show Steps p.tables e below (T43.setTop (mkF m 158 #[.val (.ref xthis), .val (.long xt), .second, .unset, .val (.long v38), .second, .val (.int (0 : Int32)), .val (.long v81), .second, .val (.int v118), .val (.long v128), .second] [(.ref b43), (.ref b43)])) _
          refine XS.iconst X43.here hx rfl (hb hby own_d6_158) ?_
          show Steps p.tables e below (T43.setTop (mkF m 159 #[.val (.ref xthis), .val (.long xt), .second, .unset, .val (.long v38), .second, .val (.int (0 : Int32)), .val (.long v81), .second, .val (.int v118), .val (.long v128), .second] [(.int (1 : Int32)), (.ref b43), (.ref b43)])) _
          refine XS.lconst X43.here hx rfl (hb hby own_d6_159) ?_
          show Steps p.tables e below (T43.setTop (mkF m 160 #[.val (.ref xthis), .val (.long xt), .second, .unset, .val (.long v38), .second, .val (.int (0 : Int32)), .val (.long v81), .second, .val (.int v118), .val (.long v128), .second] [(.long (0 : Int64)), (.int (1 : Int32)), (.ref b43), (.ref b43)])) _
          refine XS.lload X43.here hx rfl (hb hby own_d6_160) rfl ?_
          show Steps p.tables e below (T43.setTop (mkF m 162 #[.val (.ref xthis), .val (.long xt), .second, .unset, .val (.long v38), .second, .val (.int (0 : Int32)), .val (.long v81), .second, .val (.int v118), .val (.long v128), .second] [(.long v128), (.long (0 : Int64)), (.int (1 : Int32)), (.ref b43), (.ref b43)])) _
          refine XS.iload X43.here hx rfl (hb hby own_d6_162) rfl ?_
          show Steps p.tables e below (T43.setTop (mkF m 164 #[.val (.ref xthis), .val (.long xt), .second, .unset, .val (.long v38), .second, .val (.int (0 : Int32)), .val (.long v81), .second, .val (.int v118), .val (.long v128), .second] [(.int v118), (.long v128), (.long (0 : Int64)), (.int (1 : Int32)), (.ref b43), (.ref b43)])) _
          refine st54.trans ?_
          show Steps p.tables e below (T54.setTop (mkF m 167 #[.val (.ref xthis), .val (.long xt), .second, .unset, .val (.long v38), .second, .val (.int (0 : Int32)), .val (.long v81), .second, .val (.int v118), .val (.long v128), .second] [(.ref b43)])) _
          refine XS.astoreN X54.here hx rfl (hb hby own_d6_167) rfl rfl (l' := #[.val (.ref xthis), .val (.long xt), .second, .val (.ref b43), .val (.long v38), .second, .val (.int (0 : Int32)), .val (.long v81), .second, .val (.int v118), .val (.long v128), .second]) rfl ?_
          show Steps p.tables e below (T54.setTop (mkF m 168 #[.val (.ref xthis), .val (.long xt), .second, .val (.ref b43), .val (.long v38), .second, .val (.int (0 : Int32)), .val (.long v81), .second, .val (.int v118), .val (.long v128), .second] [])) _
          refine XS.goto X54.here hx rfl (pc0 := 168) (pc' := 233) rfl (hb hby own_d6_168) (by decide) (by decide) ?_
          show Steps p.tables e below (T54.setTop (mkF m 233 #[.val (.ref xthis), .val (.long xt), .second, .val (.ref b43), .val (.long v38), .second, .val (.int (0 : Int32)), .val (.long v81), .second, .val (.int v118), .val (.long v128), .second] [])) _
          refine XS.aloadN X54.here hx rfl (hb hby own_d6_233) rfl rfl ?_
          show Steps p.tables e below (T54.setTop (mkF m 234 #[.val (.ref xthis), .val (.long xt), .second, .val (.ref b43), .val (.long v38), .second, .val (.int (0 : Int32)), .val (.long v81), .second, .val (.int v118), .val (.long v128), .second] [(.ref b43)])) _
          exact retA X54 hx Bd.returns rfl rfl rfl (hb hby own_d6_234) hr
        · show own_Q6_0 Z xthis xt xty xsz xix xti h0 n0 _ T54.heap _
          exact ⟨b43, rfl, N54, KK54, sz_b43, F55.lt, F55, (by rw [ev67]; exact F56), F57, (by rw [ev68]; exact F58), (by rw [ev69]; exact F59)⟩
      · obtain ⟨T70, h70, X70, e70, E70, A70, D70, -, st70⟩ := newO X39 hx hZ hown (hw _ (List.mem_of_getElem? (i := 51) rfl)) (hw _ (List.mem_of_getElem? (i := 52) rfl)) (hw _ (List.mem_of_getElem? (i := 53) rfl)) eh39 (g := (mkF m 138 #[.val (.ref xthis), .val (.long xt), .second, .unset, .val (.long v38), .second, .val (.int (0 : Int32)), .val (.long v81), .second, .val (.int v118), .val (.long v128), .second] [])) rfl (hb hby own_d6_138) (by decide) (by decide)
        obtain ⟨b70, g70⟩ : ∃ z, z = h0.size := ⟨_, rfl⟩
        rw [← g70] at A70 D70 st70
        have ne_xthis_b70 : xthis ≠ b70 := Nat.ne_of_lt (Nat.lt_of_lt_of_le F_recordTime_xthis.lt (Nat.le_of_eq g70.symm))
        have ne_xty_b70 : xty ≠ b70 := Nat.ne_of_lt (Nat.lt_of_lt_of_le F_ordinal_xty.lt (Nat.le_of_eq g70.symm))
        have g_b70 : n0 ≤ b70 := Nat.le_trans Z0 (Nat.le_of_eq g70.symm)
        have sz_b70 : h0.size ≤ b70 := Nat.le_trans K0.1 (Nat.le_of_eq g70.symm)
        have K70 : Keep h0 h70 [] := K0.ext E70
        have F71 : Fld Z h70 xthis "com/example/tracebook/tracebook/model/Paging" "type" "Lcom/example/tracebook/tracebook/model/Paging$Type;" (.ref xty) := F_type_xthis.ext E70
        have F72 : Exa Z h70 xty "com/example/tracebook/tracebook/model/Paging$Type" := E_xty.ext E70
        have F73 : Fld Z h70 xty "java/lang/Enum" "ordinal" "I" (.int (0 : Int32)) := F_ordinal_xty.ext E70
        have F74 : Fld Z h70 xthis "com/example/tracebook/tracebook/model/Paging" "pageSize" "I" (.int xsz) := F_pageSize_xthis.ext E70
        have F75 : Fld Z h70 xthis "com/example/tracebook/tracebook/model/Paging" "pageIndex" "J" (.long xix) := F_pageIndex_xthis.ext E70
        have F76 : Fld Z h70 xthis "com/example/tracebook/tracebook/model/Paging" "recordTime" "J" (.long xti) := F_recordTime_xthis.ext E70
        have Z70 : n0 ≤ h70.size := Nat.le_trans Z0 E70.1
        have F77 : Fld Z h70 b70 "com/example/tracebook/tracebook/model/Paging$Walk" "backward" "Z" (.int (0 : Int32)) := D70 (Or.inr (hw _ (List.mem_of_getElem? (i := 59) rfl))) (ty := .boolean) (by decide)
        have F78 : Fld Z h70 b70 "com/example/tracebook/tracebook/model/Paging$Walk" "from" "J" (.long (0 : Int64)) := D70 (Or.inr (hw _ (List.mem_of_getElem? (i := 61) rfl))) (ty := .long) (by decide)
        have F79 : Fld Z h70 b70 "com/example/tracebook/tracebook/model/Paging$Walk" "skip" "J" (.long (0 : Int64)) := D70 (Or.inr (hw _ (List.mem_of_getElem? (i := 63) rfl))) (ty := .long) (by decide)
        have F80 : Fld Z h70 b70 "com/example/tracebook/tracebook/model/Paging$Walk" "take" "I" (.int (0 : Int32)) := D70 (Or.inr (hw _ (List.mem_of_getElem? (i := 65) rfl))) (ty := .int) (by decide)
        obtain ⟨_, _, ⟨T81, L81, k81, n81⟩, -, X81, ⟨Lc81, hQ81, l81, y81, z81⟩, st81⟩ := X70.specialBack hx (y := (⟨"com/example/tracebook/tracebook/model/Paging$Walk", "<init>", "(ZJJI)V"⟩ : MethodName)) rfl hown (mvT hZ (hw _ (List.mem_of_getElem? (i := 54) rfl))) (mvT hZ (hw _ (List.mem_of_getElem? (i := 55) rfl))) (mvT hZ (hw _ (List.mem_of_getElem? (i := 56) rfl))) (by decide) (backOf (W := 1) (own_rm8_0 l Z a0 hw [] b70 (0 : Int64) v81 v118 h70 n0 Z70 A70 F77 F78 F79 F80 g_b70) hZ (hw _ (List.mem_of_getElem? (i := 56) rfl)) (hw _ (List.mem_of_getElem? (i := 53) rfl)) (by decide) (by decide)) (g := (mkF m 148 #[.val (.ref xthis), .val (.long xt), .second, .unset, .val (.long v38), .second, .val (.int (0 : Int32)), .val (.long v81), .second, .val (.int v118), .val (.long v128), .second] [(.int v118), (.long v81), (.long (0 : Int64)), (.int (0 : Int32)), (.ref b70), (.ref b70)])) rfl (by rw [hml]; rfl) (Steps.refl _) (a := b70) (argsL := [(.int (0 : Int32)), (.long (0 : Int64)), (.long v81), (.int v118)]) (rest := [(.ref b70)]) (lenOf own_pd2 rfl) rfl (by show 2 * 0 + _ ≤ _; exact Nat.le_of_eq rfl) (hb hby own_d6_148) (fun _ _ => ⟨rfl, e70, (by decide : 1 + 0 ≤ _), (by decide : 4 + 0 ≤ _)⟩)
        dsimp only [Pt.U, Pt.locs, Pt.cells, Pt.slots] at X81 l81 y81 z81 st81 hQ81
        subst l81 y81 z81
        obtain ⟨rfl, N81q, K81q, F82, F83, F84, F85, F86⟩ := hQ81
        have K81 := K81q
        have KK81 : Keep h0 T81.heap [] := K70.trans K81 (allS (Or.inr sz_b70) all0)
        have F87 : Fld Z T81.heap xthis "com/example/tracebook/tracebook/model/Paging" "type" "Lcom/example/tracebook/tracebook/model/Paging$Type;" (.ref xty) := F71.keep K81 (ninS ne_xthis_b70 nin0)
        have F88 : Exa Z T81.heap xty "com/example/tracebook/tracebook/model/Paging$Type" := F72.keep K81
        have F89 : Fld Z T81.heap xty "java/lang/Enum" "ordinal" "I" (.int (0 : Int32)) := F73.keep K81 (ninS ne_xty_b70 nin0)
        have F90 : Fld Z T81.heap xthis "com/example/tracebook/tracebook/model/Paging" "pageSize" "I" (.int xsz) := F74.keep K81 (ninS ne_xthis_b70 nin0)
        have F91 : Fld Z T81.heap xthis "com/example/tracebook/tracebook/model/Paging" "pageIndex" "J" (.long xix) := F75.keep K81 (ninS ne_xthis_b70 nin0)
        have F92 : Fld Z T81.heap xthis "com/example/tracebook/tracebook/model/Paging" "recordTime" "J" (.long xti) := F76.keep K81 (ninS ne_xthis_b70 nin0)
        have F93 : Exa Z T81.heap b70 "com/example/tracebook/tracebook/model/Paging$Walk" := A70.keep K81
        have Z81 : n0 ≤ T81.heap.size := Nat.le_trans Z70 K81.1
        have N81 := Fr.app N39 N81q
        obtain ⟨fs, hr, hrun, hended, hW, hsame⟩ := X81.leave (v := some (.ref b70)) (fun h => by rw [Bd.returns] at h; cases h)
        have ev94 : (own_bw xix xsz xt) = (0 : Int32) := by
          unfold own_bw
          rw [e1, if_pos hc87, e3, if_neg hc135]
        have ev95 : (own_sk xix xsz xt) = v81 := by
          unfold own_sk
          rw [e1, if_pos hc87, e3, if_neg hc135]
        have ev96 : (own_tk xix xsz xt) = v118 := by
          exact e2
        refine ⟨_, _, pre42 _ ?_, hrun, hended, _, _, rfl, ?_, ⟨_, rfl⟩, hW, hsame.mono (by decide) (by decide)⟩
        · show Steps p.tables e below (T39.setTop (mkF m 135 #[.val (.ref xthis), .val (.long xt), .second, .unset, .val (.long v38), .second, .val (.int (0 : Int32)), .val (.long v81), .second, .val (.int v118), .val (.long v128), .second] [(.int (lcmpW v81 v128))])) _
          refine XS.ifNo X39.here hx rfl (hb hby own_d6_135) rfl ((if0 _ _).trans (flt (fun z => hc135 ((lw_gt v81 v128).mp z))).2.2.1) ?_
          show Steps p.tables e below (T39.setTop (mkF m 138 #[.val (.ref xthis), .val (.long xt), .second, .unset, .val (.long v38), .second, .val (.int (0 : Int32)), .val (.long v81), .second, .val (.int v118), .val (.long v128), .second] [])) _
          refine st70 _ ?_
          show Steps p.tables e below (T70.setTop (mkF m 141 #[.val (.ref xthis), .val (.long xt), .second, .unset, .val (.long v38), .second, .val (.int (0 : Int32)), .val (.long v81), .second, .val (.int v118), .val (.long v128), .second] [(.ref b70)])) _
          refine XS.dup X70.here hx rfl (hb hby own_d6_141) rfl rfl ?_
          show Steps p.tables e below (T70.setTop (mkF m 142 #[.val (.ref xthis), .val (.long xt), .second, .unset, .val (.long v38), .second, .val (.int (0 : Int32)), .val (.long v81), .second, .val (.int v118), .val (.long v128), .second] [(.ref b70), (.ref b70)])) _
          refine XS.iconst X70.here hx rfl (hb hby own_d6_142) ?_
          show Steps p.tables e below (T70.setTop (mkF m 143 #[.val (.ref xthis), .val (.long xt), .second, .unset, .val (.long v38), .second, .val (.int (0 : Int32)), .val (.long v81), .second, .val (.int v118), .val (.long v128), .second] [(.int (0 : Int32)), (.ref b70), (.ref b70)])) _
          refine XS.lconst X70.here hx rfl (hb hby own_d6_143) ?_
          show Steps p.tables e below (T70.setTop (mkF m 144 #[.val (.ref xthis), .val (.long xt), .second, .unset, .val (.long v38), .second, .val (.int (0 : Int32)), .val (.long v81), .second, .val (.int v118), .val (.long v128), .second] [(.long (0 : Int64)), (.int (0 : Int32)), (.ref b70), (.ref b70)])) _
          refine XS.lload X70.here hx rfl (hb hby own_d6_144) rfl ?_
          show Steps p.tables e below (T70.setTop (mkF m 146 #[.val (.ref xthis), .val (.long xt), .second, .unset, .val (.long v38), .second, .val (.int (0 : Int32)), .val (.long v81), .second, .val (.int v118), .val (.long v128), .second] [(.long v81), (.long (0 : Int64)), (.int (0 : Int32)), (.ref b70), (.ref b70)])) _
          refine XS.iload X70.here hx rfl (hb hby own_d6_146) rfl ?_
          show Steps p.tables e below (T70.setTop (mkF m 148 #[.val (.ref xthis), .val (.long xt), .second, .unset, .val (.long v38), .second, .val (.int (0 : Int32)), .val (.long v81), .second, .val (.int v118), .val (.long v128), .second] [(.int v118), (.long v81), (.long (0 : Int64)), (.int (0 : Int32)), (.ref b70), (.ref b70)])) _
          refine st81.trans ?_
          show Steps p.tables e below (T81.setTop (mkF m 151 #[.val (.ref xthis), .val (.long xt), .second, .unset, .val (.long v38), .second, .val (.int (0 : Int32)), .val (.long v81), .second, .val (.int v118), .val (.long v128), .second] [(.ref b70)])) _
          refine XS.goto X81.here hx rfl (pc0 := 151) (pc' := 167) rfl (hb hby own_d6_151) (by decide) (by decide) ?_
          show Steps p.tables e below (T81.setTop (mkF m 167 #[.val (.ref xthis), .val (.long xt), .second, .unset, .val (.long v38), .second, .val (.int (0 : Int32)), .val (.long v81), .second, .val (.int v118), .val (.long v128), .second] [(.ref b70)])) _
          refine XS.astoreN X81.here hx rfl (hb hby own_d6_167) rfl rfl (l' := #[.val (.ref xthis), .val (.long xt), .second, .val (.ref b70), .val (.long v38), .second, .val (.int (0 : Int32)), .val (.long v81), .second, .val (.int v118), .val (.long v128), .second]) rfl ?_
          show Steps p.tables e below (T81.setTop (mkF m 168 #[.val (.ref xthis), .val (.long xt), .second, .val (.ref b70), .val (.long v38), .second, .val (.int (0 : Int32)), .val (.long v81), .second, .val (.int v118), .val (.long v128), .second] [])) _
          refine XS.goto X81.here hx rfl (pc0 := 168) (pc' := 233) rfl (hb hby own_d6_168) (by decide) (by decide) ?_
          show Steps p.tables e below (T81.setTop (mkF m 233 #[.val (.ref xthis), .val (.long xt), .second, .val (.ref b70), .val (.long v38), .second, .val (.int (0 : Int32)), .val (.long v81), .second, .val (.int v118), .val (.long v128), .second] [])) _
          refine XS.aloadN X81.here hx rfl (hb hby own_d6_233) rfl rfl ?_
          show Steps p.tables e below (T81.setTop (mkF m 234 #[.val (.ref xthis), .val (.long xt), .second, .val (.ref b70), .val (.long v38), .second, .val (.int (0 : Int32)), .val (.long v81), .second, .val (.int v118), .val (.long v128), .second] [(.ref b70)])) _
          exact retA X81 hx Bd.returns rfl rfl rfl (hb hby own_d6_234) hr
        · show own_Q6_0 Z xthis xt xty xsz xix xti h0 n0 _ T81.heap _
          exact ⟨b70, rfl, N81, KK81, sz_b70, F82.lt, F82, (by rw [ev94]; exact F83), F84, (by rw [ev95]; exact F85), (by rw [ev96]; exact F86)⟩
    · obtain ⟨T97, h97, X97, e97, E97, A97, D97, -, st97⟩ := newO X35 hx hZ hown (hw _ (List.mem_of_getElem? (i := 51) rfl)) (hw _ (List.mem_of_getElem? (i := 52) rfl)) (hw _ (List.mem_of_getElem? (i := 53) rfl)) e35 (g := (mkF m 90 #[.val (.ref xthis), .val (.long xt), .second, .unset, .val (.long v38), .second, .val (.int (0 : Int32)), .val (.long v81), .second, .unset, .unset, .unset] [])) rfl (hb hby own_d6_90) (by decide) (by decide)
      obtain ⟨b97, g97⟩ : ∃ z, z = h0.size := ⟨_, rfl⟩
      rw [← g97] at A97 D97 st97
      have ne_xthis_b97 : xthis ≠ b97 := Nat.ne_of_lt (Nat.lt_of_lt_of_le F_recordTime_xthis.lt (Nat.le_of_eq g97.symm))
      have ne_xty_b97 : xty ≠ b97 := Nat.ne_of_lt (Nat.lt_of_lt_of_le F_ordinal_xty.lt (Nat.le_of_eq g97.symm))
      have g_b97 : n0 ≤ b97 := Nat.le_trans Z0 (Nat.le_of_eq g97.symm)
      have sz_b97 : h0.size ≤ b97 := Nat.le_trans K0.1 (Nat.le_of_eq g97.symm)
      have K97 : Keep h0 h97 [] := K0.ext E97
      have F98 : Fld Z h97 xthis "com/example/tracebook/tracebook/model/Paging" "type" "Lcom/example/tracebook/tracebook/model/Paging$Type;" (.ref xty) := F_type_xthis.ext E97
      have F99 : Exa Z h97 xty "com/example/tracebook/tracebook/model/Paging$Type" := E_xty.ext E97
      have F100 : Fld Z h97 xty "java/lang/Enum" "ordinal" "I" (.int (0 : Int32)) := F_ordinal_xty.ext E97
      have F101 : Fld Z h97 xthis "com/example/tracebook/tracebook/model/Paging" "pageSize" "I" (.int xsz) := F_pageSize_xthis.ext E97
      have F102 : Fld Z h97 xthis "com/example/tracebook/tracebook/model/Paging" "pageIndex" "J" (.long xix) := F_pageIndex_xthis.ext E97
      have F103 : Fld Z h97 xthis "com/example/tracebook/tracebook/model/Paging" "recordTime" "J" (.long xti) := F_recordTime_xthis.ext E97
      have Z97 : n0 ≤ h97.size := Nat.le_trans Z0 E97.1
      have F104 : Fld Z h97 b97 "com/example/tracebook/tracebook/model/Paging$Walk" "backward" "Z" (.int (0 : Int32)) := D97 (Or.inr (hw _ (List.mem_of_getElem? (i := 59) rfl))) (ty := .boolean) (by decide)
      have F105 : Fld Z h97 b97 "com/example/tracebook/tracebook/model/Paging$Walk" "from" "J" (.long (0 : Int64)) := D97 (Or.inr (hw _ (List.mem_of_getElem? (i := 61) rfl))) (ty := .long) (by decide)
      have F106 : Fld Z h97 b97 "com/example/tracebook/tracebook/model/Paging$Walk" "skip" "J" (.long (0 : Int64)) := D97 (Or.inr (hw _ (List.mem_of_getElem? (i := 63) rfl))) (ty := .long) (by decide)
      have F107 : Fld Z h97 b97 "com/example/tracebook/tracebook/model/Paging$Walk" "take" "I" (.int (0 : Int32)) := D97 (Or.inr (hw _ (List.mem_of_getElem? (i := 65) rfl))) (ty := .int) (by decide)
      obtain ⟨_, _, ⟨T108, L108, k108, n108⟩, -, X108, ⟨Lc108, hQ108, l108, y108, z108⟩, st108⟩ := X97.specialBack hx (y := (⟨"com/example/tracebook/tracebook/model/Paging$Walk", "<init>", "(ZJJI)V"⟩ : MethodName)) rfl hown (mvT hZ (hw _ (List.mem_of_getElem? (i := 54) rfl))) (mvT hZ (hw _ (List.mem_of_getElem? (i := 55) rfl))) (mvT hZ (hw _ (List.mem_of_getElem? (i := 56) rfl))) (by decide) (backOf (W := 1) (own_rm8_0 l Z a0 hw [] b97 (0 : Int64) (0 : Int64) (0 : Int32) h97 n0 Z97 A97 F104 F105 F106 F107 g_b97) hZ (hw _ (List.mem_of_getElem? (i := 56) rfl)) (hw _ (List.mem_of_getElem? (i := 53) rfl)) (by decide) (by decide)) (g := (mkF m 98 #[.val (.ref xthis), .val (.long xt), .second, .unset, .val (.long v38), .second, .val (.int (0 : Int32)), .val (.long v81), .second, .unset, .unset, .unset] [(.int (0 : Int32)), (.long (0 : Int64)), (.long (0 : Int64)), (.int (0 : Int32)), (.ref b97), (.ref b97)])) rfl (by rw [hml]; rfl) (Steps.refl _) (a := b97) (argsL := [(.int (0 : Int32)), (.long (0 : Int64)), (.long (0 : Int64)), (.int (0 : Int32))]) (rest := [(.ref b97)]) (lenOf own_pd2 rfl) rfl (by show 2 * 0 + _ ≤ _; exact Nat.le_of_eq rfl) (hb hby own_d6_98) (fun _ _ => ⟨rfl, e97, (by decide : 1 + 0 ≤ _), (by decide : 4 + 0 ≤ _)⟩)
      dsimp only [Pt.U, Pt.locs, Pt.cells, Pt.slots] at X108 l108 y108 z108 st108 hQ108
      subst l108 y108 z108
      obtain ⟨rfl, N108q, K108q, F109, F110, F111, F112, F113⟩ := hQ108
      have K108 := K108q
      have KK108 : Keep h0 T108.heap [] := K97.trans K108 (allS (Or.inr sz_b97) all0)
      have F114 : Fld Z T108.heap xthis "com/example/tracebook/tracebook/model/Paging" "type" "Lcom/example/tracebook/tracebook/model/Paging$Type;" (.ref xty) := F98.keep K108 (ninS ne_xthis_b97 nin0)
      have F115 : Exa Z T108.heap xty "com/example/tracebook/tracebook/model/Paging$Type" := F99.keep K108
      have F116 : Fld Z T108.heap xty "java/lang/Enum" "ordinal" "I" (.int (0 : Int32)) := F100.keep K108 (ninS ne_xty_b97 nin0)
      have F117 : Fld Z T108.heap xthis "com/example/tracebook/tracebook/model/Paging" "pageSize" "I" (.int xsz) := F101.keep K108 (ninS ne_xthis_b97 nin0)
      have F118 : Fld Z T108.heap xthis "com/example/tracebook/tracebook/model/Paging" "pageIndex" "J" (.long xix) := F102.keep K108 (ninS ne_xthis_b97 nin0)
      have F119 : Fld Z T108.heap xthis "com/example/tracebook/tracebook/model/Paging" "recordTime" "J" (.long xti) := F103.keep K108 (ninS ne_xthis_b97 nin0)
      have F120 : Exa Z T108.heap b97 "com/example/tracebook/tracebook/model/Paging$Walk" := A97.keep K108
      have Z108 : n0 ≤ T108.heap.size := Nat.le_trans Z97 K108.1
      have N108 := Fr.app N2 N108q
      obtain ⟨fs, hr, hrun, hended, hW, hsame⟩ := X108.leave (v := some (.ref b97)) (fun h => by rw [Bd.returns] at h; cases h)
      have ev121 : (own_bw xix xsz xt) = (0 : Int32) := by
        unfold own_bw
        rw [e1, if_neg hc87]
      have ev122 : (own_sk xix xsz xt) = (0 : Int64) := by
        unfold own_sk
        rw [e1, if_neg hc87]
      have ev123 : (own_tk xix xsz xt) = (0 : Int32) := by
        unfold own_tk
        rw [e1, if_neg hc87]
      refine ⟨_, _, pre37 _ ?_, hrun, hended, _, _, rfl, ?_, ⟨_, rfl⟩, hW, hsame.mono (by decide) (by decide)⟩
      · show Steps p.tables e below (T35.setTop (mkF m 87 #[.val (.ref xthis), .val (.long xt), .second, .unset, .val (.long v38), .second, .val (.int (0 : Int32)), .val (.long v81), .second, .unset, .unset, .unset] [(.int (lcmpW v81 xt))])) _
        refine XS.ifNo X35.here hx rfl (hb hby own_d6_87) rfl ((if0 _ _).trans (flt (fun z => hc87 ((lw_lt v81 xt).mp z))).1) ?_
        show Steps p.tables e below (T35.setTop (mkF m 90 #[.val (.ref xthis), .val (.long xt), .second, .unset, .val (.long v38), .second, .val (.int (0 : Int32)), .val (.long v81), .second, .unset, .unset, .unset] [])) _
        refine st97 _ ?_
        show Steps p.tables e below (T97.setTop (mkF m 93 #[.val (.ref xthis), .val (.long xt), .second, .unset, .val (.long v38), .second, .val (.int (0 : Int32)), .val (.long v81), .second, .unset, .unset, .unset] [(.ref b97)])) _
        refine XS.dup X97.here hx rfl (hb hby own_d6_93) rfl rfl ?_
        show Steps p.tables e below (T97.setTop (mkF m 94 #[.val (.ref xthis), .val (.long xt), .second, .unset, .val (.long v38), .second, .val (.int (0 : Int32)), .val (.long v81), .second, .unset, .unset, .unset] [(.ref b97), (.ref b97)])) _
        refine XS.iconst X97.here hx rfl (hb hby own_d6_94) ?_
        show Steps p.tables e below (T97.setTop (mkF m 95 #[.val (.ref xthis), .val (.long xt), .second, .unset, .val (.long v38), .second, .val (.int (0 : Int32)), .val (.long v81), .second, .unset, .unset, .unset] [(.int (0 : Int32)), (.ref b97), (.ref b97)])) _
        refine XS.lconst X97.here hx rfl (hb hby own_d6_95) ?_
        show Steps p.tables e below (T97.setTop (mkF m 96 #[.val (.ref xthis), .val (.long xt), .second, .unset, .val (.long v38), .second, .val (.int (0 : Int32)), .val (.long v81), .second, .unset, .unset, .unset] [(.long (0 : Int64)), (.int (0 : Int32)), (.ref b97), (.ref b97)])) _
        refine XS.lconst X97.here hx rfl (hb hby own_d6_96) ?_
        show Steps p.tables e below (T97.setTop (mkF m 97 #[.val (.ref xthis), .val (.long xt), .second, .unset, .val (.long v38), .second, .val (.int (0 : Int32)), .val (.long v81), .second, .unset, .unset, .unset] [(.long (0 : Int64)), (.long (0 : Int64)), (.int (0 : Int32)), (.ref b97), (.ref b97)])) _
        refine XS.iconst X97.here hx rfl (hb hby own_d6_97) ?_
        show Steps p.tables e below (T97.setTop (mkF m 98 #[.val (.ref xthis), .val (.long xt), .second, .unset, .val (.long v38), .second, .val (.int (0 : Int32)), .val (.long v81), .second, .unset, .unset, .unset] [(.int (0 : Int32)), (.long (0 : Int64)), (.long (0 : Int64)), (.int (0 : Int32)), (.ref b97), (.ref b97)])) _
        refine st108.trans ?_
        show Steps p.tables e below (T108.setTop (mkF m 101 #[.val (.ref xthis), .val (.long xt), .second, .unset, .val (.long v38), .second, .val (.int (0 : Int32)), .val (.long v81), .second, .unset, .unset, .unset] [(.ref b97)])) _
        refine XS.astoreN X108.here hx rfl (hb hby own_d6_101) rfl rfl (l' := #[.val (.ref xthis), .val (.long xt), .second, .val (.ref b97), .val (.long v38), .second, .val (.int (0 : Int32)), .val (.long v81), .second, .unset, .unset, .unset]) rfl ?_
        show Steps p.tables e below (T108.setTop (mkF m 102 #[.val (.ref xthis), .val (.long xt), .second, .val (.ref b97), .val (.long v38), .second, .val (.int (0 : Int32)), .val (.long v81), .second, .unset, .unset, .unset] [])) _
        refine XS.goto X108.here hx rfl (pc0 := 102) (pc' := 168) rfl (hb hby own_d6_102) (by decide) (by decide) ?_
        show Steps p.tables e below (T108.setTop (mkF m 168 #[.val (.ref xthis), .val (.long xt), .second, .val (.ref b97), .val (.long v38), .second, .val (.int (0 : Int32)), .val (.long v81), .second, .unset, .unset, .unset] [])) _
        refine XS.goto X108.here hx rfl (pc0 := 168) (pc' := 233) rfl (hb hby own_d6_168) (by decide) (by decide) ?_
        show Steps p.tables e below (T108.setTop (mkF m 233 #[.val (.ref xthis), .val (.long xt), .second, .val (.ref b97), .val (.long v38), .second, .val (.int (0 : Int32)), .val (.long v81), .second, .unset, .unset, .unset] [])) _
        refine XS.aloadN X108.here hx rfl (hb hby own_d6_233) rfl rfl ?_
        show Steps p.tables e below (T108.setTop (mkF m 234 #[.val (.ref xthis), .val (.long xt), .second, .val (.ref b97), .val (.long v38), .second, .val (.int (0 : Int32)), .val (.long v81), .second, .unset, .unset, .unset] [(.ref b97)])) _
        exact retA X108 hx Bd.returns rfl rfl rfl (hb hby own_d6_234) hr
      · show own_Q6_0 Z xthis xt xty xsz xix xti h0 n0 _ T108.heap _
        exact ⟨b97, rfl, N108, KK108, sz_b97, F109.lt, F109, (by rw [ev121]; exact F110), F111, (by rw [ev122]; exact F112), (by rw [ev123]; exact F113)⟩
theorem own_d6_171 : decode prog_14_method_2_code 171 = .ok (.new 38, 3) := by decide +kernel
theorem own_d6_174 : decode prog_14_method_2_code 174 = .ok (.dup, 1) := by decide +kernel
theorem own_d6_175 : decode prog_14_method_2_code 175 = .ok (.iconst 0, 1) := by decide +kernel
theorem own_d6_176 : decode prog_14_method_2_code 176 = .ok (.aload_n 0, 1) := by decide +kernel
theorem own_d6_177 : decode prog_14_method_2_code 177 = .ok (.getfield 25, 3) := by decide +kernel
theorem own_d6_180 : decode prog_14_method_2_code 180 = .ok (.lconst 0, 1) := by decide +kernel
theorem own_d6_181 : decode prog_14_method_2_code 181 = .ok (.aload_n 0, 1) := by decide +kernel
theorem own_d6_182 : decode prog_14_method_2_code 182 = .ok (.getfield 17, 3) := by decide +kernel
theorem own_d6_185 : decode prog_14_method_2_code 185 = .ok (.invokespecial 40, 3) := by decide +kernel
theorem own_d6_188 : decode prog_14_method_2_code 188 = .ok (.astore_n 3, 1) := by decide +kernel
theorem own_d6_189 : decode prog_14_method_2_code 189 = .ok (.goto 44, 3) := by decide +kernel
def own_Q6_1 (Z : State) (xthis : Addr) (xt : Int64) (xty : Addr) (xsz : Int32) (xix : Int64) (xti : Int64) (h0 : Heap) (n0 : Nat) (v : Option Value) (h : Heap) (L : List Loc) : Prop := ∃ (xn : Addr), v = some (.ref xn) ∧ Fr n0 L ∧ Keep h0 h [] ∧ h0.size ≤ xn ∧ xn < h.size ∧ Exa Z h xn "com/example/tracebook/tracebook/model/Paging$Walk" ∧ Fld Z h xn "com/example/tracebook/tracebook/model/Paging$Walk" "backward" "Z" (.int (0 : Int32)) ∧ Fld Z h xn "com/example/tracebook/tracebook/model/Paging$Walk" "from" "J" (.long xti) ∧ Fld Z h xn "com/example/tracebook/tracebook/model/Paging$Walk" "skip" "J" (.long (0 : Int64)) ∧ Fld Z h xn "com/example/tracebook/tracebook/model/Paging$Walk" "take" "I" (.int xsz)
theorem own_ef6_1 (m : MethodId) (xthis : Addr) (xt : Int64) : entryFrame m #[(.ref xthis), (.long xt)] 12 = mkF m 0 #[.val (.ref xthis), .val (.long xt), .second, .unset, .unset, .unset, .unset, .unset, .unset, .unset, .unset, .unset] [] := by first | (simp [entryFrame, mkF, argsToLocals, Value.category]; done) | rfl
set_option maxRecDepth 65536 in
set_option maxHeartbeats 40000000 in
theorem own_rm6_1 (l : Launch) (Z : State) (a0 : Array Value) (hw : ∀ d ∈ tables_1, d.before a0 Z = true) (ws : List Jvm.Cond) (xthis : Addr) (xt : Int64) (xty : Addr) (xsz : Int32) (xix : Int64) (xti : Int64) (h0 : Heap) (n0 : Nat) (Z0 : n0 ≤ h0.size) (F_type_xthis : Fld Z h0 xthis "com/example/tracebook/tracebook/model/Paging" "type" "Lcom/example/tracebook/tracebook/model/Paging$Type;" (.ref xty)) (E_xty : Exa Z h0 xty "com/example/tracebook/tracebook/model/Paging$Type") (F_ordinal_xty : Fld Z h0 xty "java/lang/Enum" "ordinal" "I" (.int (1 : Int32))) (F_pageSize_xthis : Fld Z h0 xthis "com/example/tracebook/tracebook/model/Paging" "pageSize" "I" (.int xsz)) (F_pageIndex_xthis : Fld Z h0 xthis "com/example/tracebook/tracebook/model/Paging" "pageIndex" "J" (.long xix)) (F_recordTime_xthis : Fld Z h0 xthis "com/example/tracebook/tracebook/model/Paging" "recordTime" "J" (.long xti)) :
    MetFree l (⟨"com/example/tracebook/tracebook/model/Paging", "walk", "(J)Lcom/example/tracebook/tracebook/model/Paging$Walk;"⟩ : MethodName) (head1 (Jvm.Cond.code (⟨"com/example/tracebook/tracebook/model/Paging", "walk", "(J)Lcom/example/tracebook/tracebook/model/Paging$Walk;"⟩ : MethodName) prog_14_method_2_code 12 (some (.object "com/example/tracebook/tracebook/model/Paging$Walk")) :: ws) ({ frames := 3, cells := 1, slots := 4, locals := 43 } : Room)) (fun a U => a = #[(.ref xthis), (.long xt)] ∧ Z.Warmed39 U.vm ∧ U.heap = h0) (fun _ _ _ _ _ => True) (fun _ U o U' => ∃ v L, o = .returned v ∧ own_Q6_1 Z xthis xt xty xsz xix xti h0 n0 v U'.heap L ∧ FrameEnd U o U' L ({ frames := 3, cells := 1, slots := 4, locals := 43 } : Room).cells ({ frames := 3, cells := 1, slots := 4, locals := 43 } : Room).slots) := by
  refine MetFree.of_bodySF (plainFor_of_name own_pn1) hisR ?_
  intro p e s m args below meth c s₁ Bd hml0 hP hK
  obtain ⟨rfl, hZ, hh⟩ := hP
  have hx := Bd.exec
  have hby := Bd.bytes
  have hml : c.maxLocals = 12 := hml0
  have hown : s.vm.findClass "com/example/tracebook/tracebook/model/Paging" = some m.cls := findClass_of_methodNamed Bd.named
  have hnm := (name_of_methodNamed Bd.named Bd.method).1
  have X0 : Stand p l e ({ frames := 3, cells := 1, slots := 4, locals := 43 } : Room) s m #[(.ref xthis), (.long xt)] below meth c s₁ [] 0 0 := Stand.of_body Bd
  have e0 : s₁.heap = h0 := by rw [← hh, Bd.state]; rfl
  have N0 := Fr.nil n0
  have pre0 : ∀ t, Steps p.tables e below (s₁.setTop (mkF m 0 #[.val (.ref xthis), .val (.long xt), .second, .unset, .unset, .unset, .unset, .unset, .unset, .unset, .unset, .unset] [])) t → Steps p.tables e below (s₁.setTop (entryFrame m #[(.ref xthis), (.long xt)] 12)) t := fun t k => castTop (own_ef6_1 m xthis xt) k
  have K0 : Keep h0 h0 [] := Keep.refl _ _
  obtain ⟨T1, X1, e1, st1⟩ := getF X0 hx hZ hown (host := "") (Or.inl (hw _ (List.mem_of_getElem? (i := 26) rfl))) Via.refl e0 F_type_xthis (g := (mkF m 1 #[.val (.ref xthis), .val (.long xt), .second, .unset, .unset, .unset, .unset, .unset, .unset, .unset, .unset, .unset] [(.ref xthis)])) rfl rfl (hb hby own_d6_1)
  obtain ⟨cq2, kq2, q2a, q2b, q2c⟩ := isOf hZ e1 E_xty
  obtain ⟨_, _, ⟨T2, L2, k2, n2⟩, -, X2, ⟨Lc2, hQ2, l2, y2, z2⟩, st2⟩ := X1.virtualBackUp hx (x := (⟨"com/example/tracebook/tracebook/model/Paging$Type", "ordinal", "()I"⟩ : MethodName)) (y := (⟨"java/lang/Enum", "ordinal", "()I"⟩ : MethodName)) hown (mvT hZ (hw _ (List.mem_of_getElem? (i := 41) rfl))) (mvT hZ (hw _ (List.mem_of_getElem? (i := 42) rfl))) (mvT hZ (hw _ (List.mem_of_getElem? (i := 43) rfl))) (by decide) (mvT hZ (hw _ (List.mem_of_getElem? (i := 45) rfl))) (mvT hZ (hw _ (List.mem_of_getElem? (i := 44) rfl))) (backOf (W := 0) (own_rm7 l Z a0 hw [] xty (1 : Int32) h0 n0 Z0 F_ordinal_xty) hZ (hw _ (List.mem_of_getElem? (i := 47) rfl)) (hw _ (List.mem_of_getElem? (i := 46) rfl)) (by decide) (by decide)) q2a q2c (g := (mkF m 4 #[.val (.ref xthis), .val (.long xt), .second, .unset, .unset, .unset, .unset, .unset, .unset, .unset, .unset, .unset] [(.ref xty)])) rfl (by rw [hml]; rfl) (Steps.refl _) (argsL := []) (rest := []) (lenOf own_pd1 rfl) rfl (by show 2 * 0 + _ ≤ _; exact Nat.le_of_eq rfl) (hb hby own_d6_4) (fun _ _ => ⟨rfl, e1, (by decide : 0 + 0 ≤ _), (by decide : 0 + 0 ≤ _)⟩)
  dsimp only [Pt.U, Pt.locs, Pt.cells, Pt.slots] at X2 l2 y2 z2 st2 hQ2
  subst l2 y2 z2
  obtain ⟨rfl, N2q, eh2⟩ := hQ2
  have N2 := Fr.app N0 N2q
  obtain ⟨T3, h3, X3, e3, E3, A3, D3, -, st3⟩ := newO X2 hx hZ hown (hw _ (List.mem_of_getElem? (i := 51) rfl)) (hw _ (List.mem_of_getElem? (i := 52) rfl)) (hw _ (List.mem_of_getElem? (i := 53) rfl)) eh2 (g := (mkF m 171 #[.val (.ref xthis), .val (.long xt), .second, .unset, .unset, .unset, .unset, .unset, .unset, .unset, .unset, .unset] [])) rfl (hb hby own_d6_171) (by decide) (by decide)
  obtain ⟨b3, g3⟩ : ∃ z, z = h0.size := ⟨_, rfl⟩
  rw [← g3] at A3 D3 st3
  have ne_xthis_b3 : xthis ≠ b3 := Nat.ne_of_lt (Nat.lt_of_lt_of_le F_recordTime_xthis.lt (Nat.le_of_eq g3.symm))
  have ne_xty_b3 : xty ≠ b3 := Nat.ne_of_lt (Nat.lt_of_lt_of_le F_ordinal_xty.lt (Nat.le_of_eq g3.symm))
  have g_b3 : n0 ≤ b3 := Nat.le_trans Z0 (Nat.le_of_eq g3.symm)
  have sz_b3 : h0.size ≤ b3 := Nat.le_trans K0.1 (Nat.le_of_eq g3.symm)
  have K3 : Keep h0 h3 [] := K0.ext E3
  have F4 : Fld Z h3 xthis "com/example/tracebook/tracebook/model/Paging" "type" "Lcom/example/tracebook/tracebook/model/Paging$Type;" (.ref xty) := F_type_xthis.ext E3
  have F5 : Exa Z h3 xty "com/example/tracebook/tracebook/model/Paging$Type" := E_xty.ext E3
  have F6 : Fld Z h3 xty "java/lang/Enum" "ordinal" "I" (.int (1 : Int32)) := F_ordinal_xty.ext E3
  have F7 : Fld Z h3 xthis "com/example/tracebook/tracebook/model/Paging" "pageSize" "I" (.int xsz) := F_pageSize_xthis.ext E3
  have F8 : Fld Z h3 xthis "com/example/tracebook/tracebook/model/Paging" "pageIndex" "J" (.long xix) := F_pageIndex_xthis.ext E3
  have F9 : Fld Z h3 xthis "com/example/tracebook/tracebook/model/Paging" "recordTime" "J" (.long xti) := F_recordTime_xthis.ext E3
  have Z3 : n0 ≤ h3.size := Nat.le_trans Z0 E3.1
  have F10 : Fld Z h3 b3 "com/example/tracebook/tracebook/model/Paging$Walk" "backward" "Z" (.int (0 : Int32)) := D3 (Or.inr (hw _ (List.mem_of_getElem? (i := 59) rfl))) (ty := .boolean) (by decide)
  have F11 : Fld Z h3 b3 "com/example/tracebook/tracebook/model/Paging$Walk" "from" "J" (.long (0 : Int64)) := D3 (Or.inr (hw _ (List.mem_of_getElem? (i := 61) rfl))) (ty := .long) (by decide)
  have F12 : Fld Z h3 b3 "com/example/tracebook/tracebook/model/Paging$Walk" "skip" "J" (.long (0 : Int64)) := D3 (Or.inr (hw _ (List.mem_of_getElem? (i := 63) rfl))) (ty := .long) (by decide)
  have F13 : Fld Z h3 b3 "com/example/tracebook/tracebook/model/Paging$Walk" "take" "I" (.int (0 : Int32)) := D3 (Or.inr (hw _ (List.mem_of_getElem? (i := 65) rfl))) (ty := .int) (by decide)
  obtain ⟨T14, X14, e14, st14⟩ := getF X3 hx hZ hown (host := "") (Or.inl (hw _ (List.mem_of_getElem? (i := 34) rfl))) Via.refl e3 F9 (g := (mkF m 177 #[.val (.ref xthis), .val (.long xt), .second, .unset, .unset, .unset, .unset, .unset, .unset, .unset, .unset, .unset] [(.ref xthis), (.int (0 : Int32)), (.ref b3), (.ref b3)])) rfl rfl (hb hby own_d6_177)
  obtain ⟨T15, X15, e15, st15⟩ := getF X14 hx hZ hown (host := "") (Or.inl (hw _ (List.mem_of_getElem? (i := 30) rfl))) Via.refl e14 F7 (g := (mkF m 182 #[.val (.ref xthis), .val (.long xt), .second, .unset, .unset, .unset, .unset, .unset, .unset, .unset, .unset, .unset] [(.ref xthis), (.long (0 : Int64)), (.long xti), (.int (0 : Int32)), (.ref b3), (.ref b3)])) rfl rfl (hb hby own_d6_182)
  obtain ⟨_, _, ⟨T16, L16, k16, n16⟩, -, X16, ⟨Lc16, hQ16, l16, y16, z16⟩, st16⟩ := X15.specialBack hx (y := (⟨"com/example/tracebook/tracebook/model/Paging$Walk", "<init>", "(ZJJI)V"⟩ : MethodName)) rfl hown (mvT hZ (hw _ (List.mem_of_getElem? (i := 54) rfl))) (mvT hZ (hw _ (List.mem_of_getElem? (i := 55) rfl))) (mvT hZ (hw _ (List.mem_of_getElem? (i := 56) rfl))) (by decide) (backOf (W := 1) (own_rm8_0 l Z a0 hw [] b3 xti (0 : Int64) xsz h3 n0 Z3 A3 F10 F11 F12 F13 g_b3) hZ (hw _ (List.mem_of_getElem? (i := 56) rfl)) (hw _ (List.mem_of_getElem? (i := 53) rfl)) (by decide) (by decide)) (g := (mkF m 185 #[.val (.ref xthis), .val (.long xt), .second, .unset, .unset, .unset, .unset, .unset, .unset, .unset, .unset, .unset] [(.int xsz), (.long (0 : Int64)), (.long xti), (.int (0 : Int32)), (.ref b3), (.ref b3)])) rfl (by rw [hml]; rfl) (Steps.refl _) (a := b3) (argsL := [(.int (0 : Int32)), (.long xti), (.long (0 : Int64)), (.int xsz)]) (rest := [(.ref b3)]) (lenOf own_pd2 rfl) rfl (by show 2 * 0 + _ ≤ _; exact Nat.le_of_eq rfl) (hb hby own_d6_185) (fun _ _ => ⟨rfl, e15, (by decide : 1 + 0 ≤ _), (by decide : 4 + 0 ≤ _)⟩)
  dsimp only [Pt.U, Pt.locs, Pt.cells, Pt.slots] at X16 l16 y16 z16 st16 hQ16
  subst l16 y16 z16
  obtain ⟨rfl, N16q, K16q, F17, F18, F19, F20, F21⟩ := hQ16
  have K16 := K16q
  have KK16 : Keep h0 T16.heap [] := K3.trans K16 (allS (Or.inr sz_b3) all0)
  have F22 : Fld Z T16.heap xthis "com/example/tracebook/tracebook/model/Paging" "type" "Lcom/example/tracebook/tracebook/model/Paging$Type;" (.ref xty) := F4.keep K16 (ninS ne_xthis_b3 nin0)
  have F23 : Exa Z T16.heap xty "com/example/tracebook/tracebook/model/Paging$Type" := F5.keep K16
  have F24 : Fld Z T16.heap xty "java/lang/Enum" "ordinal" "I" (.int (1 : Int32)) := F6.keep K16 (ninS ne_xty_b3 nin0)
  have F25 : Fld Z T16.heap xthis "com/example/tracebook/tracebook/model/Paging" "pageSize" "I" (.int xsz) := F7.keep K16 (ninS ne_xthis_b3 nin0)
  have F26 : Fld Z T16.heap xthis "com/example/tracebook/tracebook/model/Paging" "pageIndex" "J" (.long xix) := F8.keep K16 (ninS ne_xthis_b3 nin0)
  have F27 : Fld Z T16.heap xthis "com/example/tracebook/tracebook/model/Paging" "recordTime" "J" (.long xti) := F9.keep K16 (ninS ne_xthis_b3 nin0)
  have F28 : Exa Z T16.heap b3 "com/example/tracebook/tracebook/model/Paging$Walk" := A3.keep K16
  have Z16 : n0 ≤ T16.heap.size := Nat.le_trans Z3 K16.1
  have N16 := Fr.app N2 N16q
  obtain ⟨fs, hr, hrun, hended, hW, hsame⟩ := X16.leave (v := some (.ref b3)) (fun h => by rw [Bd.returns] at h; cases h)
  refine ⟨_, _, pre0 _ ?_, hrun, hended, _, _, rfl, ?_, ⟨_, rfl⟩, hW, hsame.mono (by decide) (by decide)⟩
  · show Steps p.tables e below (s₁.setTop (mkF m 0 #[.val (.ref xthis), .val (.long xt), .second, .unset, .unset, .unset, .unset, .unset, .unset, .unset, .unset, .unset] [])) _
    refine XS.aloadN X0.here hx rfl (hb hby own_d6_0) rfl rfl ?_
    show Steps p.tables e below (s₁.setTop (mkF m 1 #[.val (.ref xthis), .val (.long xt), .second, .unset, .unset, .unset, .unset, .unset, .unset, .unset, .unset, .unset] [(.ref xthis)])) _
    refine st1 _ ?_
    show Steps p.tables e below (T1.setTop (mkF m 4 #[.val (.ref xthis), .val (.long xt), .second, .unset, .unset, .unset, .unset, .unset, .unset, .unset, .unset, .unset] [(.ref xty)])) _
    refine st2.trans ?_
    show Steps p.tables e below (T2.setTop (mkF m 7 #[.val (.ref xthis), .val (.long xt), .second, .unset, .unset, .unset, .unset, .unset, .unset, .unset, .unset, .unset] [(.int (1 : Int32))])) _
    refine XS.tswIn X2.here hx rfl (pc0 := 7) (pc' := 171) rfl (hb hby own_d6_7) rfl (by decide) (o := 164) (by decide) (by decide) (by decide) ?_
    show Steps p.tables e below (T2.setTop (mkF m 171 #[.val (.ref xthis), .val (.long xt), .second, .unset, .unset, .unset, .unset, .unset, .unset, .unset, .unset, .unset] [])) _
    refine st3 _ ?_
    show Steps p.tables e below (T3.setTop (mkF m 174 #[.val (.ref xthis), .val (.long xt), .second, .unset, .unset, .unset, .unset, .unset, .unset, .unset, .unset, .unset] [(.ref b3)])) _
    refine XS.dup X3.here hx rfl (hb hby own_d6_174) rfl rfl ?_
    show Steps p.tables e below (T3.setTop (mkF m 175 #[.val (.ref xthis), .val (.long xt), .second, .unset, .unset, .unset, .unset, .unset, .unset, .unset, .unset, .unset] [(.ref b3), (.ref b3)])) _
    refine XS.iconst X3.here hx rfl (hb hby own_d6_175) ?_
    show Steps p.tables e below (T3.setTop (mkF m 176 #[.val (.ref xthis), .val (.long xt), .second, .unset, .unset, .unset, .unset, .unset, .unset, .unset, .unset, .unset] [(.int (0 : Int32)), (.ref b3), (.ref b3)])) _
    refine XS.aloadN X3.here hx rfl (hb hby own_d6_176) rfl rfl ?_
    show Steps p.tables e below (T3.setTop (mkF m 177 #[.val (.ref xthis), .val (.long xt), .second, .unset, .unset, .unset, .unset, .unset, .unset, .unset, .unset, .unset] [(.ref xthis), (.int (0 : Int32)), (.ref b3), (.ref b3)])) _
    refine st14 _ ?_
    show Steps p.tables e below (T14.setTop (mkF m 180 #[.val (.ref xthis), .val (.long xt), .second, .unset, .unset, .unset, .unset, .unset, .unset, .unset, .unset, .unset] [(.long xti), (.int (0 : Int32)), (.ref b3), (.ref b3)])) _
    refine XS.lconst X14.here hx rfl (hb hby own_d6_180) ?_
    show Steps p.tables e below (T14.setTop (mkF m 181 #[.val (.ref xthis), .val (.long xt), .second, .unset, .unset, .unset, .unset, .unset, .unset, .unset, .unset, .unset] [(.long (0 : Int64)), (.long xti), (.int (0 : Int32)), (.ref b3), (.ref b3)])) _
    refine XS.aloadN X14.here hx rfl (hb hby own_d6_181) rfl rfl ?_
    show Steps p.tables e below (T14.setTop (mkF m 182 #[.val (.ref xthis), .val (.long xt), .second, .unset, .unset, .unset, .unset, .unset, .unset, .unset, .unset, .unset] [(.ref xthis), (.long (0 : Int64)), (.long xti), (.int (0 : Int32)), (.ref b3), (.ref b3)])) _
    refine st15 _ ?_
    show Steps p.tables e below (T15.setTop (mkF m 185 #[.val (.ref xthis), .val (.long xt), .second, .unset, .unset, .unset, .unset, .unset, .unset, .unset, .unset, .unset] [(.int xsz), (.long (0 : Int64)), (.long xti), (.int (0 : Int32)), (.ref b3), (.ref b3)])) _
    refine st16.trans ?_
    show Steps p.tables e below (T16.setTop (mkF m 188 #[.val (.ref xthis), .val (.long xt), .second, .unset, .unset, .unset, .unset, .unset, .unset, .unset, .unset, .unset] [(.ref b3)])) _
    refine XS.astoreN X16.here hx rfl (hb hby own_d6_188) rfl rfl (l' := #[.val (.ref xthis), .val (.long xt), .second, .val (.ref b3), .unset, .unset, .unset, .unset, .unset, .unset, .unset, .unset]) rfl ?_
    show Steps p.tables e below (T16.setTop (mkF m 189 #[.val (.ref xthis), .val (.long xt), .second, .val (.ref b3), .unset, .unset, .unset, .unset, .unset, .unset, .unset, .unset] [])) _
    refine XS.goto X16.here hx rfl (pc0 := 189) (pc' := 233) rfl (hb hby own_d6_189) (by decide) (by decide) ?_
    show Steps p.tables e below (T16.setTop (mkF m 233 #[.val (.ref xthis), .val (.long xt), .second, .val (.ref b3), .unset, .unset, .unset, .unset, .unset, .unset, .unset, .unset] [])) _
    refine XS.aloadN X16.here hx rfl (hb hby own_d6_233) rfl rfl ?_
    show Steps p.tables e below (T16.setTop (mkF m 234 #[.val (.ref xthis), .val (.long xt), .second, .val (.ref b3), .unset, .unset, .unset, .unset, .unset, .unset, .unset, .unset] [(.ref b3)])) _
    exact retA X16 hx Bd.returns rfl rfl rfl (hb hby own_d6_234) hr
  · show own_Q6_1 Z xthis xt xty xsz xix xti h0 n0 _ T16.heap _
    exact ⟨b3, rfl, N16, KK16, sz_b3, F17.lt, F17, F18, F19, F20, F21⟩
theorem own_d6_192 : decode prog_14_method_2_code 192 = .ok (.new 38, 3) := by decide +kernel
theorem own_d6_195 : decode prog_14_method_2_code 195 = .ok (.dup, 1) := by decide +kernel
theorem own_d6_196 : decode prog_14_method_2_code 196 = .ok (.iconst 1, 1) := by decide +kernel
theorem own_d6_197 : decode prog_14_method_2_code 197 = .ok (.aload_n 0, 1) := by decide +kernel
theorem own_d6_198 : decode prog_14_method_2_code 198 = .ok (.getfield 25, 3) := by decide +kernel
theorem own_d6_201 : decode prog_14_method_2_code 201 = .ok (.lconst 0, 1) := by decide +kernel
theorem own_d6_202 : decode prog_14_method_2_code 202 = .ok (.aload_n 0, 1) := by decide +kernel
theorem own_d6_203 : decode prog_14_method_2_code 203 = .ok (.getfield 17, 3) := by decide +kernel
theorem own_d6_206 : decode prog_14_method_2_code 206 = .ok (.invokespecial 40, 3) := by decide +kernel
theorem own_d6_209 : decode prog_14_method_2_code 209 = .ok (.astore_n 3, 1) := by decide +kernel
theorem own_d6_210 : decode prog_14_method_2_code 210 = .ok (.goto 23, 3) := by decide +kernel
def own_Q6_2 (Z : State) (xthis : Addr) (xt : Int64) (xty : Addr) (xsz : Int32) (xix : Int64) (xti : Int64) (h0 : Heap) (n0 : Nat) (v : Option Value) (h : Heap) (L : List Loc) : Prop := ∃ (xn : Addr), v = some (.ref xn) ∧ Fr n0 L ∧ Keep h0 h [] ∧ h0.size ≤ xn ∧ xn < h.size ∧ Exa Z h xn "com/example/tracebook/tracebook/model/Paging$Walk" ∧ Fld Z h xn "com/example/tracebook/tracebook/model/Paging$Walk" "backward" "Z" (.int (1 : Int32)) ∧ Fld Z h xn "com/example/tracebook/tracebook/model/Paging$Walk" "from" "J" (.long xti) ∧ Fld Z h xn "com/example/tracebook/tracebook/model/Paging$Walk" "skip" "J" (.long (0 : Int64)) ∧ Fld Z h xn "com/example/tracebook/tracebook/model/Paging$Walk" "take" "I" (.int xsz)
theorem own_ef6_2 (m : MethodId) (xthis : Addr) (xt : Int64) : entryFrame m #[(.ref xthis), (.long xt)] 12 = mkF m 0 #[.val (.ref xthis), .val (.long xt), .second, .unset, .unset, .unset, .unset, .unset, .unset, .unset, .unset, .unset] [] := by first | (simp [entryFrame, mkF, argsToLocals, Value.category]; done) | rfl
set_option maxRecDepth 65536 in
set_option maxHeartbeats 40000000 in
theorem own_rm6_2 (l : Launch) (Z : State) (a0 : Array Value) (hw : ∀ d ∈ tables_1, d.before a0 Z = true) (ws : List Jvm.Cond) (xthis : Addr) (xt : Int64) (xty : Addr) (xsz : Int32) (xix : Int64) (xti : Int64) (h0 : Heap) (n0 : Nat) (Z0 : n0 ≤ h0.size) (F_type_xthis : Fld Z h0 xthis "com/example/tracebook/tracebook/model/Paging" "type" "Lcom/example/tracebook/tracebook/model/Paging$Type;" (.ref xty)) (E_xty : Exa Z h0 xty "com/example/tracebook/tracebook/model/Paging$Type") (F_ordinal_xty : Fld Z h0 xty "java/lang/Enum" "ordinal" "I" (.int (2 : Int32))) (F_pageSize_xthis : Fld Z h0 xthis "com/example/tracebook/tracebook/model/Paging" "pageSize" "I" (.int xsz)) (F_pageIndex_xthis : Fld Z h0 xthis "com/example/tracebook/tracebook/model/Paging" "pageIndex" "J" (.long xix)) (F_recordTime_xthis : Fld Z h0 xthis "com/example/tracebook/tracebook/model/Paging" "recordTime" "J" (.long xti)) :
    MetFree l (⟨"com/example/tracebook/tracebook/model/Paging", "walk", "(J)Lcom/example/tracebook/tracebook/model/Paging$Walk;"⟩ : MethodName) (head1 (Jvm.Cond.code (⟨"com/example/tracebook/tracebook/model/Paging", "walk", "(J)Lcom/example/tracebook/tracebook/model/Paging$Walk;"⟩ : MethodName) prog_14_method_2_code 12 (some (.object "com/example/tracebook/tracebook/model/Paging$Walk")) :: ws) ({ frames := 3, cells := 1, slots := 4, locals := 43 } : Room)) (fun a U => a = #[(.ref xthis), (.long xt)] ∧ Z.Warmed39 U.vm ∧ U.heap = h0) (fun _ _ _ _ _ => True) (fun _ U o U' => ∃ v L, o = .returned v ∧ own_Q6_2 Z xthis xt xty xsz xix xti h0 n0 v U'.heap L ∧ FrameEnd U o U' L ({ frames := 3, cells := 1, slots := 4, locals := 43 } : Room).cells ({ frames := 3, cells := 1, slots := 4, locals := 43 } : Room).slots) := by
  refine MetFree.of_bodySF (plainFor_of_name own_pn1) hisR ?_
  intro p e s m args below meth c s₁ Bd hml0 hP hK
  obtain ⟨rfl, hZ, hh⟩ := hP
  have hx := Bd.exec
  have hby := Bd.bytes
  have hml : c.maxLocals = 12 := hml0
  have hown : s.vm.findClass "com/example/tracebook/tracebook/model/Paging" = some m.cls := findClass_of_methodNamed Bd.named
  have hnm := (name_of_methodNamed Bd.named Bd.method).1
  have X0 : Stand p l e ({ frames := 3, cells := 1, slots := 4, locals := 43 } : Room) s m #[(.ref xthis), (.long xt)] below meth c s₁ [] 0 0 := Stand.of_body Bd
  have e0 : s₁.heap = h0 := by rw [← hh, Bd.state]; rfl
  have N0 := Fr.nil n0
  have pre0 : ∀ t, Steps p.tables e below (s₁.setTop (mkF m 0 #[.val (.ref xthis), .val (.long xt), .second, .unset, .unset, .unset, .unset, .unset, .unset, .unset, .unset, .unset] [])) t → Steps p.tables e below (s₁.setTop (entryFrame m #[(.ref xthis), (.long xt)] 12)) t := fun t k => castTop (own_ef6_2 m xthis xt) k
  have K0 : Keep h0 h0 [] := Keep.refl _ _
  obtain ⟨T1, X1, e1, st1⟩ := getF X0 hx hZ hown (host := "") (Or.inl (hw _ (List.mem_of_getElem? (i := 26) rfl))) Via.refl e0 F_type_xthis (g := (mkF m 1 #[.val (.ref xthis), .val (.long xt), .second, .unset, .unset, .unset, .unset, .unset, .unset, .unset, .unset, .unset] [(.ref xthis)])) rfl rfl (hb hby own_d6_1)
  obtain ⟨cq2, kq2, q2a, q2b, q2c⟩ := isOf hZ e1 E_xty
  obtain ⟨_, _, ⟨T2, L2, k2, n2⟩, -, X2, ⟨Lc2, hQ2, l2, y2, z2⟩, st2⟩ := X1.virtualBackUp hx (x := (⟨"com/example/tracebook/tracebook/model/Paging$Type", "ordinal", "()I"⟩ : MethodName)) (y := (⟨"java/lang/Enum", "ordinal", "()I"⟩ : MethodName)) hown (mvT hZ (hw _ (List.mem_of_getElem? (i := 41) rfl))) (mvT hZ (hw _ (List.mem_of_getElem? (i := 42) rfl))) (mvT hZ (hw _ (List.mem_of_getElem? (i := 43) rfl))) (by decide) (mvT hZ (hw _ (List.mem_of_getElem? (i := 45) rfl))) (mvT hZ (hw _ (List.mem_of_getElem? (i := 44) rfl))) (backOf (W := 0) (own_rm7 l Z a0 hw [] xty (2 : Int32) h0 n0 Z0 F_ordinal_xty) hZ (hw _ (List.mem_of_getElem? (i := 47) rfl)) (hw _ (List.mem_of_getElem? (i := 46) rfl)) (by decide) (by decide)) q2a q2c (g := (mkF m 4 #[.val (.ref xthis), .val (.long xt), .second, .unset, .unset, .unset, .unset, .unset, .unset, .unset, .unset, .unset] [(.ref xty)])) rfl (by rw [hml]; rfl) (Steps.refl _) (argsL := []) (rest := []) (lenOf own_pd1 rfl) rfl (by show 2 * 0 + _ ≤ _; exact Nat.le_of_eq rfl) (hb hby own_d6_4) (fun _ _ => ⟨rfl, e1, (by decide : 0 + 0 ≤ _), (by decide : 0 + 0 ≤ _)⟩)
  dsimp only [Pt.U, Pt.locs, Pt.cells, Pt.slots] at X2 l2 y2 z2 st2 hQ2
  subst l2 y2 z2
  obtain ⟨rfl, N2q, eh2⟩ := hQ2
  have N2 := Fr.app N0 N2q
  obtain ⟨T3, h3, X3, e3, E3, A3, D3, -, st3⟩ := newO X2 hx hZ hown (hw _ (List.mem_of_getElem? (i := 51) rfl)) (hw _ (List.mem_of_getElem? (i := 52) rfl)) (hw _ (List.mem_of_getElem? (i := 53) rfl)) eh2 (g := (mkF m 192 #[.val (.ref xthis), .val (.long xt), .second, .unset, .unset, .unset, .unset, .unset, .unset, .unset, .unset, .unset] [])) rfl (hb hby own_d6_192) (by decide) (by decide)
  obtain ⟨b3, g3⟩ : ∃ z, z = h0.size := ⟨_, rfl⟩
  rw [← g3] at A3 D3 st3
  have ne_xthis_b3 : xthis ≠ b3 := Nat.ne_of_lt (Nat.lt_of_lt_of_le F_recordTime_xthis.lt (Nat.le_of_eq g3.symm))
  have ne_xty_b3 : xty ≠ b3 := Nat.ne_of_lt (Nat.lt_of_lt_of_le F_ordinal_xty.lt (Nat.le_of_eq g3.symm))
  have g_b3 : n0 ≤ b3 := Nat.le_trans Z0 (Nat.le_of_eq g3.symm)
  have sz_b3 : h0.size ≤ b3 := Nat.le_trans K0.1 (Nat.le_of_eq g3.symm)
  have K3 : Keep h0 h3 [] := K0.ext E3
  have F4 : Fld Z h3 xthis "com/example/tracebook/tracebook/model/Paging" "type" "Lcom/example/tracebook/tracebook/model/Paging$Type;" (.ref xty) := F_type_xthis.ext E3
  have F5 : Exa Z h3 xty "com/example/tracebook/tracebook/model/Paging$Type" := E_xty.ext E3
  have F6 : Fld Z h3 xty "java/lang/Enum" "ordinal" "I" (.int (2 : Int32)) := F_ordinal_xty.ext E3
  have F7 : Fld Z h3 xthis "com/example/tracebook/tracebook/model/Paging" "pageSize" "I" (.int xsz) := F_pageSize_xthis.ext E3
  have F8 : Fld Z h3 xthis "com/example/tracebook/tracebook/model/Paging" "pageIndex" "J" (.long xix) := F_pageIndex_xthis.ext E3
  have F9 : Fld Z h3 xthis "com/example/tracebook/tracebook/model/Paging" "recordTime" "J" (.long xti) := F_recordTime_xthis.ext E3
  have Z3 : n0 ≤ h3.size := Nat.le_trans Z0 E3.1
  have F10 : Fld Z h3 b3 "com/example/tracebook/tracebook/model/Paging$Walk" "backward" "Z" (.int (0 : Int32)) := D3 (Or.inr (hw _ (List.mem_of_getElem? (i := 59) rfl))) (ty := .boolean) (by decide)
  have F11 : Fld Z h3 b3 "com/example/tracebook/tracebook/model/Paging$Walk" "from" "J" (.long (0 : Int64)) := D3 (Or.inr (hw _ (List.mem_of_getElem? (i := 61) rfl))) (ty := .long) (by decide)
  have F12 : Fld Z h3 b3 "com/example/tracebook/tracebook/model/Paging$Walk" "skip" "J" (.long (0 : Int64)) := D3 (Or.inr (hw _ (List.mem_of_getElem? (i := 63) rfl))) (ty := .long) (by decide)
  have F13 : Fld Z h3 b3 "com/example/tracebook/tracebook/model/Paging$Walk" "take" "I" (.int (0 : Int32)) := D3 (Or.inr (hw _ (List.mem_of_getElem? (i := 65) rfl))) (ty := .int) (by decide)
  obtain ⟨T14, X14, e14, st14⟩ := getF X3 hx hZ hown (host := "") (Or.inl (hw _ (List.mem_of_getElem? (i := 34) rfl))) Via.refl e3 F9 (g := (mkF m 198 #[.val (.ref xthis), .val (.long xt), .second, .unset, .unset, .unset, .unset, .unset, .unset, .unset, .unset, .unset] [(.ref xthis), (.int (1 : Int32)), (.ref b3), (.ref b3)])) rfl rfl (hb hby own_d6_198)
  obtain ⟨T15, X15, e15, st15⟩ := getF X14 hx hZ hown (host := "") (Or.inl (hw _ (List.mem_of_getElem? (i := 30) rfl))) Via.refl e14 F7 (g := (mkF m 203 #[.val (.ref xthis), .val (.long xt), .second, .unset, .unset, .unset, .unset, .unset, .unset, .unset, .unset, .unset] [(.ref xthis), (.long (0 : Int64)), (.long xti), (.int (1 : Int32)), (.ref b3), (.ref b3)])) rfl rfl (hb hby own_d6_203)
  obtain ⟨_, _, ⟨T16, L16, k16, n16⟩, -, X16, ⟨Lc16, hQ16, l16, y16, z16⟩, st16⟩ := X15.specialBack hx (y := (⟨"com/example/tracebook/tracebook/model/Paging$Walk", "<init>", "(ZJJI)V"⟩ : MethodName)) rfl hown (mvT hZ (hw _ (List.mem_of_getElem? (i := 54) rfl))) (mvT hZ (hw _ (List.mem_of_getElem? (i := 55) rfl))) (mvT hZ (hw _ (List.mem_of_getElem? (i := 56) rfl))) (by decide) (backOf (W := 1) (own_rm8_1 l Z a0 hw [] b3 xti (0 : Int64) xsz h3 n0 Z3 A3 F10 F11 F12 F13 g_b3) hZ (hw _ (List.mem_of_getElem? (i := 56) rfl)) (hw _ (List.mem_of_getElem? (i := 53) rfl)) (by decide) (by decide)) (g := (mkF m 206 #[.val (.ref xthis), .val (.long xt), .second, .unset, .unset, .unset, .unset, .unset, .unset, .unset, .unset, .unset] [(.int xsz), (.long (0 : Int64)), (.long xti), (.int (1 : Int32)), (.ref b3), (.ref b3)])) rfl (by rw [hml]; rfl) (Steps.refl _) (a := b3) (argsL := [(.int (1 : Int32)), (.long xti), (.long (0 : Int64)), (.int xsz)]) (rest := [(.ref b3)]) (lenOf own_pd2 rfl) rfl (by show 2 * 0 + _ ≤ _; exact Nat.le_of_eq rfl) (hb hby own_d6_206) (fun _ _ => ⟨rfl, e15, (by decide : 1 + 0 ≤ _), (by decide : 4 + 0 ≤ _)⟩)
  dsimp only [Pt.U, Pt.locs, Pt.cells, Pt.slots] at X16 l16 y16 z16 st16 hQ16
  subst l16 y16 z16
  obtain ⟨rfl, N16q, K16q, F17, F18, F19, F20, F21⟩ := hQ16
  have K16 := K16q
  have KK16 : Keep h0 T16.heap [] := K3.trans K16 (allS (Or.inr sz_b3) all0)
  have F22 : Fld Z T16.heap xthis "com/example/tracebook/tracebook/model/Paging" "type" "Lcom/example/tracebook/tracebook/model/Paging$Type;" (.ref xty) := F4.keep K16 (ninS ne_xthis_b3 nin0)
  have F23 : Exa Z T16.heap xty "com/example/tracebook/tracebook/model/Paging$Type" := F5.keep K16
  have F24 : Fld Z T16.heap xty "java/lang/Enum" "ordinal" "I" (.int (2 : Int32)) := F6.keep K16 (ninS ne_xty_b3 nin0)
  have F25 : Fld Z T16.heap xthis "com/example/tracebook/tracebook/model/Paging" "pageSize" "I" (.int xsz) := F7.keep K16 (ninS ne_xthis_b3 nin0)
  have F26 : Fld Z T16.heap xthis "com/example/tracebook/tracebook/model/Paging" "pageIndex" "J" (.long xix) := F8.keep K16 (ninS ne_xthis_b3 nin0)
  have F27 : Fld Z T16.heap xthis "com/example/tracebook/tracebook/model/Paging" "recordTime" "J" (.long xti) := F9.keep K16 (ninS ne_xthis_b3 nin0)
  have F28 : Exa Z T16.heap b3 "com/example/tracebook/tracebook/model/Paging$Walk" := A3.keep K16
  have Z16 : n0 ≤ T16.heap.size := Nat.le_trans Z3 K16.1
  have N16 := Fr.app N2 N16q
  obtain ⟨fs, hr, hrun, hended, hW, hsame⟩ := X16.leave (v := some (.ref b3)) (fun h => by rw [Bd.returns] at h; cases h)
  refine ⟨_, _, pre0 _ ?_, hrun, hended, _, _, rfl, ?_, ⟨_, rfl⟩, hW, hsame.mono (by decide) (by decide)⟩
  · show Steps p.tables e below (s₁.setTop (mkF m 0 #[.val (.ref xthis), .val (.long xt), .second, .unset, .unset, .unset, .unset, .unset, .unset, .unset, .unset, .unset] [])) _
    refine XS.aloadN X0.here hx rfl (hb hby own_d6_0) rfl rfl ?_
    show Steps p.tables e below (s₁.setTop (mkF m 1 #[.val (.ref xthis), .val (.long xt), .second, .unset, .unset, .unset, .unset, .unset, .unset, .unset, .unset, .unset] [(.ref xthis)])) _
    refine st1 _ ?_
    show Steps p.tables e below (T1.setTop (mkF m 4 #[.val (.ref xthis), .val (.long xt), .second, .unset, .unset, .unset, .unset, .unset, .unset, .unset, .unset, .unset] [(.ref xty)])) _
    refine st2.trans ?_
    show Steps p.tables e below (T2.setTop (mkF m 7 #[.val (.ref xthis), .val (.long xt), .second, .unset, .unset, .unset, .unset, .unset, .unset, .unset, .unset, .unset] [(.int (2 : Int32))])) _
    refine XS.tswIn X2.here hx rfl (pc0 := 7) (pc' := 192) rfl (hb hby own_d6_7) rfl (by decide) (o := 185) (by decide) (by decide) (by decide) ?_
    show Steps p.tables e below (T2.setTop (mkF m 192 #[.val (.ref xthis), .val (.long xt), .second, .unset, .unset, .unset, .unset, .unset, .unset, .unset, .unset, .unset] [])) _
    refine st3 _ ?_
    show Steps p.tables e below (T3.setTop (mkF m 195 #[.val (.ref xthis), .val (.long xt), .second, .unset, .unset, .unset, .unset, .unset, .unset, .unset, .unset, .unset] [(.ref b3)])) _
    refine XS.dup X3.here hx rfl (hb hby own_d6_195) rfl rfl ?_
    show Steps p.tables e below (T3.setTop (mkF m 196 #[.val (.ref xthis), .val (.long xt), .second, .unset, .unset, .unset, .unset, .unset, .unset, .unset, .unset, .unset] [(.ref b3), (.ref b3)])) _
    refine XS.iconst X3.here hx rfl (hb hby own_d6_196) ?_
    show Steps p.tables e below (T3.setTop (mkF m 197 #[.val (.ref xthis), .val (.long xt), .second, .unset, .unset, .unset, .unset, .unset, .unset, .unset, .unset, .unset] [(.int (1 : Int32)), (.ref b3), (.ref b3)])) _
    refine XS.aloadN X3.here hx rfl (hb hby own_d6_197) rfl rfl ?_
    show Steps p.tables e below (T3.setTop (mkF m 198 #[.val (.ref xthis), .val (.long xt), .second, .unset, .unset, .unset, .unset, .unset, .unset, .unset, .unset, .unset] [(.ref xthis), (.int (1 : Int32)), (.ref b3), (.ref b3)])) _
    refine st14 _ ?_
    show Steps p.tables e below (T14.setTop (mkF m 201 #[.val (.ref xthis), .val (.long xt), .second, .unset, .unset, .unset, .unset, .unset, .unset, .unset, .unset, .unset] [(.long xti), (.int (1 : Int32)), (.ref b3), (.ref b3)])) _
    refine XS.lconst X14.here hx rfl (hb hby own_d6_201) ?_
    show Steps p.tables e below (T14.setTop (mkF m 202 #[.val (.ref xthis), .val (.long xt), .second, .unset, .unset, .unset, .unset, .unset, .unset, .unset, .unset, .unset] [(.long (0 : Int64)), (.long xti), (.int (1 : Int32)), (.ref b3), (.ref b3)])) _
    refine XS.aloadN X14.here hx rfl (hb hby own_d6_202) rfl rfl ?_
    show Steps p.tables e below (T14.setTop (mkF m 203 #[.val (.ref xthis), .val (.long xt), .second, .unset, .unset, .unset, .unset, .unset, .unset, .unset, .unset, .unset] [(.ref xthis), (.long (0 : Int64)), (.long xti), (.int (1 : Int32)), (.ref b3), (.ref b3)])) _
    refine st15 _ ?_
    show Steps p.tables e below (T15.setTop (mkF m 206 #[.val (.ref xthis), .val (.long xt), .second, .unset, .unset, .unset, .unset, .unset, .unset, .unset, .unset, .unset] [(.int xsz), (.long (0 : Int64)), (.long xti), (.int (1 : Int32)), (.ref b3), (.ref b3)])) _
    refine st16.trans ?_
    show Steps p.tables e below (T16.setTop (mkF m 209 #[.val (.ref xthis), .val (.long xt), .second, .unset, .unset, .unset, .unset, .unset, .unset, .unset, .unset, .unset] [(.ref b3)])) _
    refine XS.astoreN X16.here hx rfl (hb hby own_d6_209) rfl rfl (l' := #[.val (.ref xthis), .val (.long xt), .second, .val (.ref b3), .unset, .unset, .unset, .unset, .unset, .unset, .unset, .unset]) rfl ?_
    show Steps p.tables e below (T16.setTop (mkF m 210 #[.val (.ref xthis), .val (.long xt), .second, .val (.ref b3), .unset, .unset, .unset, .unset, .unset, .unset, .unset, .unset] [])) _
    refine XS.goto X16.here hx rfl (pc0 := 210) (pc' := 233) rfl (hb hby own_d6_210) (by decide) (by decide) ?_
    show Steps p.tables e below (T16.setTop (mkF m 233 #[.val (.ref xthis), .val (.long xt), .second, .val (.ref b3), .unset, .unset, .unset, .unset, .unset, .unset, .unset, .unset] [])) _
    refine XS.aloadN X16.here hx rfl (hb hby own_d6_233) rfl rfl ?_
    show Steps p.tables e below (T16.setTop (mkF m 234 #[.val (.ref xthis), .val (.long xt), .second, .val (.ref b3), .unset, .unset, .unset, .unset, .unset, .unset, .unset, .unset] [(.ref b3)])) _
    exact retA X16 hx Bd.returns rfl rfl rfl (hb hby own_d6_234) hr
  · show own_Q6_2 Z xthis xt xty xsz xix xti h0 n0 _ T16.heap _
    exact ⟨b3, rfl, N16, KK16, sz_b3, F17.lt, F17, F18, F19, F20, F21⟩
theorem own_pn4 : plainName "com/example/tracebook/tracebook/model/PagingWalkPinLaw" = true := by first | (simp [plainName, overriddenIn]; done) | decide +kernel
theorem own_pd4 : parseMethodDescriptor "(II)I" = some ⟨[.int, .int], some .int⟩ := by decide +kernel
theorem own_pd5 : parseMethodDescriptor "(Lcom/example/tracebook/tracebook/model/Paging$Type;ZIJJ)V" = some ⟨[(.object "com/example/tracebook/tracebook/model/Paging$Type"), .boolean, .int, .long, .long], none⟩ := by decide +kernel
theorem own_pd6 : parseMethodDescriptor "(J)Lcom/example/tracebook/tracebook/model/Paging$Walk;" = some ⟨[.long], some (.object "com/example/tracebook/tracebook/model/Paging$Walk")⟩ := by decide +kernel
theorem own_pd7 : parseMethodDescriptor "()Z" = some ⟨[], some .boolean⟩ := by decide +kernel
theorem own_pd8 : parseMethodDescriptor "()J" = some ⟨[], some .long⟩ := by decide +kernel
def own_Q0 (Z : State) (y1 : Int32) (y2 : Int32) (y3 : Int32) (y4 : Int64) (y5 : Int64) (y6 : Int64) (wI : Addr) (wN : Addr) (wP : Addr) (h0 : Heap) (n0 : Nat) (v : Option Value) (h : Heap) (L : List Loc) : Prop := v = some (.int (1 : Int32)) ∧ Fr n0 L
theorem own_ef0 (m : MethodId) (y1 : Int32) (y2 : Int32) (y3 : Int32) (y4 : Int64) (y5 : Int64) (y6 : Int64) : entryFrame m #[(.int y1), (.int y2), (.int y3), (.long y4), (.long y5), (.long y6)] maxLocals = mkF m 0 #[.val (.int y1), .val (.int y2), .val (.int y3), .val (.long y4), .second, .val (.long y5), .second, .val (.long y6), .second, .unset, .unset, .unset, .unset, .unset, .unset, .unset, .unset, .unset, .unset, .unset, .unset, .unset, .unset, .unset, .unset, .unset, .unset, .unset] [] := by first | (simp [entryFrame, mkF, argsToLocals, Value.category, maxLocals]; done) | rfl
set_option maxRecDepth 65536 in
set_option maxHeartbeats 40000000 in
theorem own_rm0 (l : Launch) (Z : State) (a0 : Array Value) (hw : ∀ d ∈ tables_1, d.before a0 Z = true) (ws : List Jvm.Cond) (y1 : Int32) (y2 : Int32) (y3 : Int32) (y4 : Int64) (y5 : Int64) (y6 : Int64) (wI : Addr) (wN : Addr) (wP : Addr) (h0 : Heap) (n0 : Nat) (Z0 : n0 ≤ h0.size) (S_INIT : Sta Z h0 "com/example/tracebook/tracebook/model/Paging$Type" "INIT" "Lcom/example/tracebook/tracebook/model/Paging$Type;" (.ref wI)) (S_NEXT : Sta Z h0 "com/example/tracebook/tracebook/model/Paging$Type" "NEXT" "Lcom/example/tracebook/tracebook/model/Paging$Type;" (.ref wN)) (S_PRE : Sta Z h0 "com/example/tracebook/tracebook/model/Paging$Type" "PRE" "Lcom/example/tracebook/tracebook/model/Paging$Type;" (.ref wP)) (E_wI : Exa Z h0 wI "com/example/tracebook/tracebook/model/Paging$Type") (E_wN : Exa Z h0 wN "com/example/tracebook/tracebook/model/Paging$Type") (E_wP : Exa Z h0 wP "com/example/tracebook/tracebook/model/Paging$Type") (F_ordinal_wI : Fld Z h0 wI "java/lang/Enum" "ordinal" "I" (.int (0 : Int32))) (F_ordinal_wN : Fld Z h0 wN "java/lang/Enum" "ordinal" "I" (.int (1 : Int32))) (F_ordinal_wP : Fld Z h0 wP "java/lang/Enum" "ordinal" "I" (.int (2 : Int32))) :
    MetFree l x (head1 (Jvm.Cond.code x code maxLocals ret :: ws) room_1) (fun a U => a = #[(.int y1), (.int y2), (.int y3), (.long y4), (.long y5), (.long y6)] ∧ Z.Warmed39 U.vm ∧ U.heap = h0) (fun _ _ _ _ _ => True) (fun _ U o U' => ∃ v L, o = .returned v ∧ own_Q0 Z y1 y2 y3 y4 y5 y6 wI wN wP h0 n0 v U'.heap L ∧ FrameEnd U o U' L room_1.cells room_1.slots) := by
  refine MetFree.of_bodySF (plainFor_of_name own_pn4) hisR ?_
  intro p e s m args below meth c s₁ Bd hml0 hP hK
  obtain ⟨rfl, hZ, hh⟩ := hP
  have hx := Bd.exec
  have hby := Bd.bytes
  have hml : c.maxLocals = 28 := hml0
  have hown : s.vm.findClass "com/example/tracebook/tracebook/model/PagingWalkPinLaw" = some m.cls := findClass_of_methodNamed Bd.named
  have hnm := (name_of_methodNamed Bd.named Bd.method).1
  have X0 : Stand p l e room_1 s m #[(.int y1), (.int y2), (.int y3), (.long y4), (.long y5), (.long y6)] below meth c s₁ [] 0 0 := Stand.of_body Bd
  have e0 : s₁.heap = h0 := by rw [← hh, Bd.state]; rfl
  have N0 := Fr.nil n0
  have pre0 : ∀ t, Steps p.tables e below (s₁.setTop (mkF m 0 #[.val (.int y1), .val (.int y2), .val (.int y3), .val (.long y4), .second, .val (.long y5), .second, .val (.long y6), .second, .unset, .unset, .unset, .unset, .unset, .unset, .unset, .unset, .unset, .unset, .unset, .unset, .unset, .unset, .unset, .unset, .unset, .unset, .unset] [])) t → Steps p.tables e below (s₁.setTop (entryFrame m #[(.int y1), (.int y2), (.int y3), (.long y4), (.long y5), (.long y6)] maxLocals)) t := fun t k => castTop (own_ef0 m y1 y2 y3 y4 y5 y6) k
  have K0 : Keep h0 h0 [] := Keep.refl _ _
  obtain ⟨v6, hv6⟩ : ∃ w : Int32, w = ((y1 &&& (2147483647 : Int32)) % (3 : Int32)) := ⟨_, rfl⟩
  have pre1 : ∀ t, Steps p.tables e below (s₁.setTop (mkF m 8 #[.val (.int y1), .val (.int y2), .val (.int y3), .val (.long y4), .second, .val (.long y5), .second, .val (.long y6), .second, .val (.int v6), .unset, .unset, .unset, .unset, .unset, .unset, .unset, .unset, .unset, .unset, .unset, .unset, .unset, .unset, .unset, .unset, .unset, .unset] [])) t → Steps p.tables e below (s₁.setTop (entryFrame m #[(.int y1), (.int y2), (.int y3), (.long y4), (.long y5), (.long y6)] maxLocals)) t := by
    intro t k
    rw [hv6] at k
    refine pre0 _ ?_
    show Steps p.tables e below (s₁.setTop (mkF m 0 #[.val (.int y1), .val (.int y2), .val (.int y3), .val (.long y4), .second, .val (.long y5), .second, .val (.long y6), .second, .unset, .unset, .unset, .unset, .unset, .unset, .unset, .unset, .unset, .unset, .unset, .unset, .unset, .unset, .unset, .unset, .unset, .unset, .unset] [])) _
    refine XS.iloadN X0.here hx rfl (hb hby at_0) rfl ?_
    show Steps p.tables e below (s₁.setTop (mkF m 1 #[.val (.int y1), .val (.int y2), .val (.int y3), .val (.long y4), .second, .val (.long y5), .second, .val (.long y6), .second, .unset, .unset, .unset, .unset, .unset, .unset, .unset, .unset, .unset, .unset, .unset, .unset, .unset, .unset, .unset, .unset, .unset, .unset, .unset] [(.int y1)])) _
    refine X0.ldcInt hx hown (mvT hZ (hw _ (List.mem_of_getElem? (i := 0) rfl))) (g := (mkF m 1 #[.val (.int y1), .val (.int y2), .val (.int y3), .val (.long y4), .second, .val (.long y5), .second, .val (.long y6), .second, .unset, .unset, .unset, .unset, .unset, .unset, .unset, .unset, .unset, .unset, .unset, .unset, .unset, .unset, .unset, .unset, .unset, .unset, .unset] [(.int y1)])) rfl (hb hby at_1) _ ?_
    show Steps p.tables e below (s₁.setTop (mkF m 3 #[.val (.int y1), .val (.int y2), .val (.int y3), .val (.long y4), .second, .val (.long y5), .second, .val (.long y6), .second, .unset, .unset, .unset, .unset, .unset, .unset, .unset, .unset, .unset, .unset, .unset, .unset, .unset, .unset, .unset, .unset, .unset, .unset, .unset] [(.int (2147483647 : Int32)), (.int y1)])) _
    refine XS.iand X0.here hx rfl (hb hby at_3) rfl ?_
    show Steps p.tables e below (s₁.setTop (mkF m 4 #[.val (.int y1), .val (.int y2), .val (.int y3), .val (.long y4), .second, .val (.long y5), .second, .val (.long y6), .second, .unset, .unset, .unset, .unset, .unset, .unset, .unset, .unset, .unset, .unset, .unset, .unset, .unset, .unset, .unset, .unset, .unset, .unset, .unset] [(.int (y1 &&& (2147483647 : Int32)))])) _
    refine XS.iconst X0.here hx rfl (hb hby at_4) ?_
    show Steps p.tables e below (s₁.setTop (mkF m 5 #[.val (.int y1), .val (.int y2), .val (.int y3), .val (.long y4), .second, .val (.long y5), .second, .val (.long y6), .second, .unset, .unset, .unset, .unset, .unset, .unset, .unset, .unset, .unset, .unset, .unset, .unset, .unset, .unset, .unset, .unset, .unset, .unset, .unset] [(.int (3 : Int32)), (.int (y1 &&& (2147483647 : Int32)))])) _
    refine iremM X0 hx rfl (hb hby at_5) rfl (by decide) ?_
    show Steps p.tables e below (s₁.setTop (mkF m 6 #[.val (.int y1), .val (.int y2), .val (.int y3), .val (.long y4), .second, .val (.long y5), .second, .val (.long y6), .second, .unset, .unset, .unset, .unset, .unset, .unset, .unset, .unset, .unset, .unset, .unset, .unset, .unset, .unset, .unset, .unset, .unset, .unset, .unset] [(.int ((y1 &&& (2147483647 : Int32)) % (3 : Int32)))])) _
    refine XS.istore X0.here hx rfl (hb hby at_6) rfl (l' := #[.val (.int y1), .val (.int y2), .val (.int y3), .val (.long y4), .second, .val (.long y5), .second, .val (.long y6), .second, .val (.int ((y1 &&& (2147483647 : Int32)) % (3 : Int32))), .unset, .unset, .unset, .unset, .unset, .unset, .unset, .unset, .unset, .unset, .unset, .unset, .unset, .unset, .unset, .unset, .unset, .unset]) rfl ?_
    exact k
  have pre2 : ∀ t, Steps p.tables e below (s₁.setTop (mkF m 11 #[.val (.int y1), .val (.int y2), .val (.int y3), .val (.long y4), .second, .val (.long y5), .second, .val (.long y6), .second, .val (.int v6), .unset, .unset, .unset, .unset, .unset, .unset, .unset, .unset, .unset, .unset, .unset, .unset, .unset, .unset, .unset, .unset, .unset, .unset] [(.int (y2 &&& (1 : Int32)))])) t → Steps p.tables e below (s₁.setTop (entryFrame m #[(.int y1), (.int y2), (.int y3), (.long y4), (.long y5), (.long y6)] maxLocals)) t := by
    intro t k
    refine pre1 _ ?_
    show Steps p.tables e below (s₁.setTop (mkF m 8 #[.val (.int y1), .val (.int y2), .val (.int y3), .val (.long y4), .second, .val (.long y5), .second, .val (.long y6), .second, .val (.int v6), .unset, .unset, .unset, .unset, .unset, .unset, .unset, .unset, .unset, .unset, .unset, .unset, .unset, .unset, .unset, .unset, .unset, .unset] [])) _
    refine XS.iloadN X0.here hx rfl (hb hby at_8) rfl ?_
    show Steps p.tables e below (s₁.setTop (mkF m 9 #[.val (.int y1), .val (.int y2), .val (.int y3), .val (.long y4), .second, .val (.long y5), .second, .val (.long y6), .second, .val (.int v6), .unset, .unset, .unset, .unset, .unset, .unset, .unset, .unset, .unset, .unset, .unset, .unset, .unset, .unset, .unset, .unset, .unset, .unset] [(.int y2)])) _
    refine XS.iconst X0.here hx rfl (hb hby at_9) ?_
    show Steps p.tables e below (s₁.setTop (mkF m 10 #[.val (.int y1), .val (.int y2), .val (.int y3), .val (.long y4), .second, .val (.long y5), .second, .val (.long y6), .second, .val (.int v6), .unset, .unset, .unset, .unset, .unset, .unset, .unset, .unset, .unset, .unset, .unset, .unset, .unset, .unset, .unset, .unset, .unset, .unset] [(.int (1 : Int32)), (.int y2)])) _
    refine XS.iand X0.here hx rfl (hb hby at_10) rfl ?_
    exact k
  obtain ⟨xnf, hxnf⟩ : ∃ w : Int32, w = (if (y2 &&& (1 : Int32)) = (0 : Int32) then (0 : Int32) else (1 : Int32)) := ⟨_, rfl⟩
  have pre3 : ∀ t, Steps p.tables e below (s₁.setTop (mkF m 19 #[.val (.int y1), .val (.int y2), .val (.int y3), .val (.long y4), .second, .val (.long y5), .second, .val (.long y6), .second, .val (.int v6), .unset, .unset, .unset, .unset, .unset, .unset, .unset, .unset, .unset, .unset, .unset, .unset, .unset, .unset, .unset, .unset, .unset, .unset] [(.int xnf)])) t → Steps p.tables e below (s₁.setTop (entryFrame m #[(.int y1), (.int y2), (.int y3), (.long y4), (.long y5), (.long y6)] maxLocals)) t := by
    intro t k
    refine pre2 _ ?_
    by_cases hm11 : (y2 &&& (1 : Int32)) = (0 : Int32)
    · have hq := hxnf
      rw [if_pos hm11] at hq
      rw [hq] at k
      show Steps p.tables e below (s₁.setTop (mkF m 11 #[.val (.int y1), .val (.int y2), .val (.int y3), .val (.long y4), .second, .val (.long y5), .second, .val (.long y6), .second, .val (.int v6), .unset, .unset, .unset, .unset, .unset, .unset, .unset, .unset, .unset, .unset, .unset, .unset, .unset, .unset, .unset, .unset, .unset, .unset] [(.int (y2 &&& (1 : Int32)))])) _
      refine XS.ifYes X0.here hx rfl (pc0 := 11) (pc' := 18) rfl (hb hby at_11) rfl ((if0 _ _).trans (teq hm11).1) (by decide) (by decide) ?_
      show Steps p.tables e below (s₁.setTop (mkF m 18 #[.val (.int y1), .val (.int y2), .val (.int y3), .val (.long y4), .second, .val (.long y5), .second, .val (.long y6), .second, .val (.int v6), .unset, .unset, .unset, .unset, .unset, .unset, .unset, .unset, .unset, .unset, .unset, .unset, .unset, .unset, .unset, .unset, .unset, .unset] [])) _
      refine XS.iconst X0.here hx rfl (hb hby at_18) ?_
      exact k
    · have hq := hxnf
      rw [if_neg hm11] at hq
      rw [hq] at k
      show Steps p.tables e below (s₁.setTop (mkF m 11 #[.val (.int y1), .val (.int y2), .val (.int y3), .val (.long y4), .second, .val (.long y5), .second, .val (.long y6), .second, .val (.int v6), .unset, .unset, .unset, .unset, .unset, .unset, .unset, .unset, .unset, .unset, .unset, .unset, .unset, .unset, .unset, .unset, .unset, .unset] [(.int (y2 &&& (1 : Int32)))])) _
      refine XS.ifNo X0.here hx rfl (hb hby at_11) rfl ((if0 _ _).trans (feq hm11).1) ?_
      show Steps p.tables e below (s₁.setTop (mkF m 14 #[.val (.int y1), .val (.int y2), .val (.int y3), .val (.long y4), .second, .val (.long y5), .second, .val (.long y6), .second, .val (.int v6), .unset, .unset, .unset, .unset, .unset, .unset, .unset, .unset, .unset, .unset, .unset, .unset, .unset, .unset, .unset, .unset, .unset, .unset] [])) _
      refine XS.iconst X0.here hx rfl (hb hby at_14) ?_
      show Steps p.tables e below (s₁.setTop (mkF m 15 #[.val (.int y1), .val (.int y2), .val (.int y3), .val (.long y4), .second, .val (.long y5), .second, .val (.long y6), .second, .val (.int v6), .unset, .unset, .unset, .unset, .unset, .unset, .unset, .unset, .unset, .unset, .unset, .unset, .unset, .unset, .unset, .unset, .unset, .unset] [(.int (1 : Int32))])) _
      refine XS.goto X0.here hx rfl (pc0 := 15) (pc' := 19) rfl (hb hby at_15) (by decide) (by decide) ?_
      exact k
  obtain ⟨v27, hv27⟩ : ∃ w : Int64, w = (y6 &&& (9223372036854775807 : Int64)) := ⟨_, rfl⟩
  have pre4 : ∀ t, Steps p.tables e below (s₁.setTop (mkF m 29 #[.val (.int y1), .val (.int y2), .val (.int y3), .val (.long y4), .second, .val (.long y5), .second, .val (.long y6), .second, .val (.int v6), .val (.int xnf), .val (.long v27), .second, .unset, .unset, .unset, .unset, .unset, .unset, .unset, .unset, .unset, .unset, .unset, .unset, .unset, .unset, .unset] [])) t → Steps p.tables e below (s₁.setTop (entryFrame m #[(.int y1), (.int y2), (.int y3), (.long y4), (.long y5), (.long y6)] maxLocals)) t := by
    intro t k
    rw [hv27] at k
    refine pre3 _ ?_
    show Steps p.tables e below (s₁.setTop (mkF m 19 #[.val (.int y1), .val (.int y2), .val (.int y3), .val (.long y4), .second, .val (.long y5), .second, .val (.long y6), .second, .val (.int v6), .unset, .unset, .unset, .unset, .unset, .unset, .unset, .unset, .unset, .unset, .unset, .unset, .unset, .unset, .unset, .unset, .unset, .unset] [(.int xnf)])) _
    refine XS.istore X0.here hx rfl (hb hby at_19) rfl (l' := #[.val (.int y1), .val (.int y2), .val (.int y3), .val (.long y4), .second, .val (.long y5), .second, .val (.long y6), .second, .val (.int v6), .val (.int xnf), .unset, .unset, .unset, .unset, .unset, .unset, .unset, .unset, .unset, .unset, .unset, .unset, .unset, .unset, .unset, .unset, .unset]) rfl ?_
    show Steps p.tables e below (s₁.setTop (mkF m 21 #[.val (.int y1), .val (.int y2), .val (.int y3), .val (.long y4), .second, .val (.long y5), .second, .val (.long y6), .second, .val (.int v6), .val (.int xnf), .unset, .unset, .unset, .unset, .unset, .unset, .unset, .unset, .unset, .unset, .unset, .unset, .unset, .unset, .unset, .unset, .unset] [])) _
    refine XS.lload X0.here hx rfl (hb hby at_21) rfl ?_
    show Steps p.tables e below (s₁.setTop (mkF m 23 #[.val (.int y1), .val (.int y2), .val (.int y3), .val (.long y4), .second, .val (.long y5), .second, .val (.long y6), .second, .val (.int v6), .val (.int xnf), .unset, .unset, .unset, .unset, .unset, .unset, .unset, .unset, .unset, .unset, .unset, .unset, .unset, .unset, .unset, .unset, .unset] [(.long y6)])) _
    refine X0.ldc2Long hx hown (mvT hZ (hw _ (List.mem_of_getElem? (i := 1) rfl))) (g := (mkF m 23 #[.val (.int y1), .val (.int y2), .val (.int y3), .val (.long y4), .second, .val (.long y5), .second, .val (.long y6), .second, .val (.int v6), .val (.int xnf), .unset, .unset, .unset, .unset, .unset, .unset, .unset, .unset, .unset, .unset, .unset, .unset, .unset, .unset, .unset, .unset, .unset] [(.long y6)])) rfl (hb hby at_23) _ ?_
    show Steps p.tables e below (s₁.setTop (mkF m 26 #[.val (.int y1), .val (.int y2), .val (.int y3), .val (.long y4), .second, .val (.long y5), .second, .val (.long y6), .second, .val (.int v6), .val (.int xnf), .unset, .unset, .unset, .unset, .unset, .unset, .unset, .unset, .unset, .unset, .unset, .unset, .unset, .unset, .unset, .unset, .unset] [(.long (9223372036854775807 : Int64)), (.long y6)])) _
    refine XS.land X0.here hx rfl (hb hby at_26) rfl ?_
    show Steps p.tables e below (s₁.setTop (mkF m 27 #[.val (.int y1), .val (.int y2), .val (.int y3), .val (.long y4), .second, .val (.long y5), .second, .val (.long y6), .second, .val (.int v6), .val (.int xnf), .unset, .unset, .unset, .unset, .unset, .unset, .unset, .unset, .unset, .unset, .unset, .unset, .unset, .unset, .unset, .unset, .unset] [(.long (y6 &&& (9223372036854775807 : Int64)))])) _
    refine XS.lstore X0.here hx rfl (hb hby at_27) rfl (l' := #[.val (.int y1), .val (.int y2), .val (.int y3), .val (.long y4), .second, .val (.long y5), .second, .val (.long y6), .second, .val (.int v6), .val (.int xnf), .val (.long (y6 &&& (9223372036854775807 : Int64))), .second, .unset, .unset, .unset, .unset, .unset, .unset, .unset, .unset, .unset, .unset, .unset, .unset, .unset, .unset, .unset]) rfl ?_
    exact k
  have ht0 : 0 ≤ v27.toInt := by rw [hv27]; exact own_t0 _
  have pre5 : ∀ t, Steps p.tables e below (s₁.setTop (mkF m 31 #[.val (.int y1), .val (.int y2), .val (.int y3), .val (.long y4), .second, .val (.long y5), .second, .val (.long y6), .second, .val (.int v6), .val (.int xnf), .val (.long v27), .second, .unset, .unset, .unset, .unset, .unset, .unset, .unset, .unset, .unset, .unset, .unset, .unset, .unset, .unset, .unset] [(.int v6)])) t → Steps p.tables e below (s₁.setTop (entryFrame m #[(.int y1), (.int y2), (.int y3), (.long y4), (.long y5), (.long y6)] maxLocals)) t := by
    intro t k
    refine pre4 _ ?_
    show Steps p.tables e below (s₁.setTop (mkF m 29 #[.val (.int y1), .val (.int y2), .val (.int y3), .val (.long y4), .second, .val (.long y5), .second, .val (.long y6), .second, .val (.int v6), .val (.int xnf), .val (.long v27), .second, .unset, .unset, .unset, .unset, .unset, .unset, .unset, .unset, .unset, .unset, .unset, .unset, .unset, .unset, .unset] [])) _
    refine XS.iload X0.here hx rfl (hb hby at_29) rfl ?_
    exact k
  by_cases hc31 : v6 = (0 : Int32)
  · obtain ⟨_, _, ⟨T6, L6, k6, n6⟩, -, X6, ⟨Lc6, hQ6, l6, y6, z6⟩, st6⟩ := Jvm.LawKit.callS X0 hx (y := (⟨"java/lang/Math", "max", "(II)I"⟩ : MethodName)) hown (mvT hZ (hw _ (List.mem_of_getElem? (i := 2) rfl))) (mvT hZ (hw _ (List.mem_of_getElem? (i := 3) rfl))) (mvT hZ (hw _ (List.mem_of_getElem? (i := 4) rfl))) (mvT hZ (hw _ (List.mem_of_getElem? (i := 5) rfl))) (by decide) (backOf (W := 0) (own_rm1 l Z a0 hw [] (1 : Int32) (y3 &&& (2147483647 : Int32)) h0 n0 Z0 ) hZ (hw _ (List.mem_of_getElem? (i := 5) rfl)) (hw _ (List.mem_of_getElem? (i := 4) rfl)) (by decide) (by decide)) (g := (mkF m 39 #[.val (.int y1), .val (.int y2), .val (.int y3), .val (.long y4), .second, .val (.long y5), .second, .val (.long y6), .second, .val (.int v6), .val (.int xnf), .val (.long v27), .second, .unset, .unset, .unset, .unset, .unset, .unset, .unset, .unset, .unset, .unset, .unset, .unset, .unset, .unset, .unset] [(.int (y3 &&& (2147483647 : Int32))), (.int (1 : Int32))])) rfl (by rw [hml]; rfl) (argsL := [(.int (1 : Int32)), (.int (y3 &&& (2147483647 : Int32)))]) (rest := []) (lenOf own_pd4 rfl) rfl (by show 2 * 0 + _ ≤ _; exact Nat.le_of_eq rfl) (hb hby at_39) (fun _ _ => ⟨rfl, e0, (by decide : 0 + 0 ≤ _), (by decide : 0 + 0 ≤ _)⟩)
    dsimp only [Pt.U, Pt.locs, Pt.cells, Pt.slots] at X6 l6 y6 z6 st6 hQ6
    subst l6 y6 z6
    obtain ⟨rfl, N6q, eh6⟩ := hQ6
    have N6 := Fr.app N0 N6q
    obtain ⟨v42, hv42⟩ : ∃ w : Int32, w = (own_max (1 : Int32) (y3 &&& (2147483647 : Int32))) := ⟨_, rfl⟩
    have pre7 : ∀ t, Steps p.tables e below (T6.setTop (mkF m 44 #[.val (.int y1), .val (.int y2), .val (.int y3), .val (.long y4), .second, .val (.long y5), .second, .val (.long y6), .second, .val (.int v6), .val (.int xnf), .val (.long v27), .second, .val (.int v42), .unset, .unset, .unset, .unset, .unset, .unset, .unset, .unset, .unset, .unset, .unset, .unset, .unset, .unset] [])) t → Steps p.tables e below (s₁.setTop (entryFrame m #[(.int y1), (.int y2), (.int y3), (.long y4), (.long y5), (.long y6)] maxLocals)) t := by
      intro t k
      rw [hv42] at k
      refine pre5 _ ?_
      show Steps p.tables e below (s₁.setTop (mkF m 31 #[.val (.int y1), .val (.int y2), .val (.int y3), .val (.long y4), .second, .val (.long y5), .second, .val (.long y6), .second, .val (.int v6), .val (.int xnf), .val (.long v27), .second, .unset, .unset, .unset, .unset, .unset, .unset, .unset, .unset, .unset, .unset, .unset, .unset, .unset, .unset, .unset] [(.int v6)])) _
      refine XS.ifNo X0.here hx rfl (hb hby at_31) rfl ((if0 _ _).trans (teq hc31).2) ?_
      show Steps p.tables e below (s₁.setTop (mkF m 34 #[.val (.int y1), .val (.int y2), .val (.int y3), .val (.long y4), .second, .val (.long y5), .second, .val (.long y6), .second, .val (.int v6), .val (.int xnf), .val (.long v27), .second, .unset, .unset, .unset, .unset, .unset, .unset, .unset, .unset, .unset, .unset, .unset, .unset, .unset, .unset, .unset] [])) _
      refine XS.iconst X0.here hx rfl (hb hby at_34) ?_
      show Steps p.tables e below (s₁.setTop (mkF m 35 #[.val (.int y1), .val (.int y2), .val (.int y3), .val (.long y4), .second, .val (.long y5), .second, .val (.long y6), .second, .val (.int v6), .val (.int xnf), .val (.long v27), .second, .unset, .unset, .unset, .unset, .unset, .unset, .unset, .unset, .unset, .unset, .unset, .unset, .unset, .unset, .unset] [(.int (1 : Int32))])) _
      refine XS.iloadN X0.here hx rfl (hb hby at_35) rfl ?_
      show Steps p.tables e below (s₁.setTop (mkF m 36 #[.val (.int y1), .val (.int y2), .val (.int y3), .val (.long y4), .second, .val (.long y5), .second, .val (.long y6), .second, .val (.int v6), .val (.int xnf), .val (.long v27), .second, .unset, .unset, .unset, .unset, .unset, .unset, .unset, .unset, .unset, .unset, .unset, .unset, .unset, .unset, .unset] [(.int y3), (.int (1 : Int32))])) _
      refine X0.ldcInt hx hown (mvT hZ (hw _ (List.mem_of_getElem? (i := 0) rfl))) (g := (mkF m 36 #[.val (.int y1), .val (.int y2), .val (.int y3), .val (.long y4), .second, .val (.long y5), .second, .val (.long y6), .second, .val (.int v6), .val (.int xnf), .val (.long v27), .second, .unset, .unset, .unset, .unset, .unset, .unset, .unset, .unset, .unset, .unset, .unset, .unset, .unset, .unset, .unset] [(.int y3), (.int (1 : Int32))])) rfl (hb hby at_36) _ ?_
      show Steps p.tables e below (s₁.setTop (mkF m 38 #[.val (.int y1), .val (.int y2), .val (.int y3), .val (.long y4), .second, .val (.long y5), .second, .val (.long y6), .second, .val (.int v6), .val (.int xnf), .val (.long v27), .second, .unset, .unset, .unset, .unset, .unset, .unset, .unset, .unset, .unset, .unset, .unset, .unset, .unset, .unset, .unset] [(.int (2147483647 : Int32)), (.int y3), (.int (1 : Int32))])) _
      refine XS.iand X0.here hx rfl (hb hby at_38) rfl ?_
      show Steps p.tables e below (s₁.setTop (mkF m 39 #[.val (.int y1), .val (.int y2), .val (.int y3), .val (.long y4), .second, .val (.long y5), .second, .val (.long y6), .second, .val (.int v6), .val (.int xnf), .val (.long v27), .second, .unset, .unset, .unset, .unset, .unset, .unset, .unset, .unset, .unset, .unset, .unset, .unset, .unset, .unset, .unset] [(.int (y3 &&& (2147483647 : Int32))), (.int (1 : Int32))])) _
      refine st6 _ ?_
      show Steps p.tables e below (T6.setTop (mkF m 42 #[.val (.int y1), .val (.int y2), .val (.int y3), .val (.long y4), .second, .val (.long y5), .second, .val (.long y6), .second, .val (.int v6), .val (.int xnf), .val (.long v27), .second, .unset, .unset, .unset, .unset, .unset, .unset, .unset, .unset, .unset, .unset, .unset, .unset, .unset, .unset, .unset] [(.int (own_max (1 : Int32) (y3 &&& (2147483647 : Int32))))])) _
      refine XS.istore X6.here hx rfl (hb hby at_42) rfl (l' := #[.val (.int y1), .val (.int y2), .val (.int y3), .val (.long y4), .second, .val (.long y5), .second, .val (.long y6), .second, .val (.int v6), .val (.int xnf), .val (.long v27), .second, .val (.int (own_max (1 : Int32) (y3 &&& (2147483647 : Int32)))), .unset, .unset, .unset, .unset, .unset, .unset, .unset, .unset, .unset, .unset, .unset, .unset, .unset, .unset]) rfl ?_
      exact k
    obtain ⟨_, _, ⟨T8, L8, k8, n8⟩, -, X8, ⟨Lc8, hQ8, l8, y8, z8⟩, st8⟩ := Jvm.LawKit.callS X6 hx (y := (⟨"java/lang/Math", "max", "(JJ)J"⟩ : MethodName)) hown (mvT hZ (hw _ (List.mem_of_getElem? (i := 6) rfl))) (mvT hZ (hw _ (List.mem_of_getElem? (i := 7) rfl))) (mvT hZ (hw _ (List.mem_of_getElem? (i := 4) rfl))) (mvT hZ (hw _ (List.mem_of_getElem? (i := 8) rfl))) (by decide) (backOf (W := 0) (own_rm2 l Z a0 hw [] (1 : Int64) (y4 &&& (9223372036854775807 : Int64)) h0 n0 Z0 ) hZ (hw _ (List.mem_of_getElem? (i := 8) rfl)) (hw _ (List.mem_of_getElem? (i := 4) rfl)) (by decide) (by decide)) (g := (mkF m 50 #[.val (.int y1), .val (.int y2), .val (.int y3), .val (.long y4), .second, .val (.long y5), .second, .val (.long y6), .second, .val (.int v6), .val (.int xnf), .val (.long v27), .second, .val (.int v42), .unset, .unset, .unset, .unset, .unset, .unset, .unset, .unset, .unset, .unset, .unset, .unset, .unset, .unset] [(.long (y4 &&& (9223372036854775807 : Int64))), (.long (1 : Int64))])) rfl (by rw [hml]; rfl) (argsL := [(.long (1 : Int64)), (.long (y4 &&& (9223372036854775807 : Int64)))]) (rest := []) (lenOf own_pd3 rfl) rfl (by show 2 * 0 + _ ≤ _; exact Nat.le_of_eq rfl) (hb hby at_50) (fun _ _ => ⟨rfl, eh6, (by decide : 0 + 0 ≤ _), (by decide : 0 + 0 ≤ _)⟩)
    dsimp only [Pt.U, Pt.locs, Pt.cells, Pt.slots] at X8 l8 y8 z8 st8 hQ8
    subst l8 y8 z8
    obtain ⟨rfl, N8q, eh8⟩ := hQ8
    have N8 := Fr.app N6 N8q
    obtain ⟨v53, hv53⟩ : ∃ w : Int64, w = (own_maxL (1 : Int64) (y4 &&& (9223372036854775807 : Int64))) := ⟨_, rfl⟩
    have pre9 : ∀ t, Steps p.tables e below (T8.setTop (mkF m 55 #[.val (.int y1), .val (.int y2), .val (.int y3), .val (.long y4), .second, .val (.long y5), .second, .val (.long y6), .second, .val (.int v6), .val (.int xnf), .val (.long v27), .second, .val (.int v42), .val (.long v53), .second, .unset, .unset, .unset, .unset, .unset, .unset, .unset, .unset, .unset, .unset, .unset, .unset] [])) t → Steps p.tables e below (s₁.setTop (entryFrame m #[(.int y1), (.int y2), (.int y3), (.long y4), (.long y5), (.long y6)] maxLocals)) t := by
      intro t k
      rw [hv53] at k
      refine pre7 _ ?_
      show Steps p.tables e below (T6.setTop (mkF m 44 #[.val (.int y1), .val (.int y2), .val (.int y3), .val (.long y4), .second, .val (.long y5), .second, .val (.long y6), .second, .val (.int v6), .val (.int xnf), .val (.long v27), .second, .val (.int v42), .unset, .unset, .unset, .unset, .unset, .unset, .unset, .unset, .unset, .unset, .unset, .unset, .unset, .unset] [])) _
      refine XS.lconst X6.here hx rfl (hb hby at_44) ?_
      show Steps p.tables e below (T6.setTop (mkF m 45 #[.val (.int y1), .val (.int y2), .val (.int y3), .val (.long y4), .second, .val (.long y5), .second, .val (.long y6), .second, .val (.int v6), .val (.int xnf), .val (.long v27), .second, .val (.int v42), .unset, .unset, .unset, .unset, .unset, .unset, .unset, .unset, .unset, .unset, .unset, .unset, .unset, .unset] [(.long (1 : Int64))])) _
      refine XS.lloadN X6.here hx rfl (hb hby at_45) rfl ?_
      show Steps p.tables e below (T6.setTop (mkF m 46 #[.val (.int y1), .val (.int y2), .val (.int y3), .val (.long y4), .second, .val (.long y5), .second, .val (.long y6), .second, .val (.int v6), .val (.int xnf), .val (.long v27), .second, .val (.int v42), .unset, .unset, .unset, .unset, .unset, .unset, .unset, .unset, .unset, .unset, .unset, .unset, .unset, .unset] [(.long y4), (.long (1 : Int64))])) _
      refine X6.ldc2Long hx hown (mvT hZ (hw _ (List.mem_of_getElem? (i := 1) rfl))) (g := (mkF m 46 #[.val (.int y1), .val (.int y2), .val (.int y3), .val (.long y4), .second, .val (.long y5), .second, .val (.long y6), .second, .val (.int v6), .val (.int xnf), .val (.long v27), .second, .val (.int v42), .unset, .unset, .unset, .unset, .unset, .unset, .unset, .unset, .unset, .unset, .unset, .unset, .unset, .unset] [(.long y4), (.long (1 : Int64))])) rfl (hb hby at_46) _ ?_
      show Steps p.tables e below (T6.setTop (mkF m 49 #[.val (.int y1), .val (.int y2), .val (.int y3), .val (.long y4), .second, .val (.long y5), .second, .val (.long y6), .second, .val (.int v6), .val (.int xnf), .val (.long v27), .second, .val (.int v42), .unset, .unset, .unset, .unset, .unset, .unset, .unset, .unset, .unset, .unset, .unset, .unset, .unset, .unset] [(.long (9223372036854775807 : Int64)), (.long y4), (.long (1 : Int64))])) _
      refine XS.land X6.here hx rfl (hb hby at_49) rfl ?_
      show Steps p.tables e below (T6.setTop (mkF m 50 #[.val (.int y1), .val (.int y2), .val (.int y3), .val (.long y4), .second, .val (.long y5), .second, .val (.long y6), .second, .val (.int v6), .val (.int xnf), .val (.long v27), .second, .val (.int v42), .unset, .unset, .unset, .unset, .unset, .unset, .unset, .unset, .unset, .unset, .unset, .unset, .unset, .unset] [(.long (y4 &&& (9223372036854775807 : Int64))), (.long (1 : Int64))])) _
      refine st8 _ ?_
      show Steps p.tables e below (T8.setTop (mkF m 53 #[.val (.int y1), .val (.int y2), .val (.int y3), .val (.long y4), .second, .val (.long y5), .second, .val (.long y6), .second, .val (.int v6), .val (.int xnf), .val (.long v27), .second, .val (.int v42), .unset, .unset, .unset, .unset, .unset, .unset, .unset, .unset, .unset, .unset, .unset, .unset, .unset, .unset] [(.long (own_maxL (1 : Int64) (y4 &&& (9223372036854775807 : Int64))))])) _
      refine XS.lstore X8.here hx rfl (hb hby at_53) rfl (l' := #[.val (.int y1), .val (.int y2), .val (.int y3), .val (.long y4), .second, .val (.long y5), .second, .val (.long y6), .second, .val (.int v6), .val (.int xnf), .val (.long v27), .second, .val (.int v42), .val (.long (own_maxL (1 : Int64) (y4 &&& (9223372036854775807 : Int64)))), .second, .unset, .unset, .unset, .unset, .unset, .unset, .unset, .unset, .unset, .unset, .unset, .unset]) rfl ?_
      exact k
    have hs1 : (0 : Int32) < v42 := by rw [hv42]; exact own_s1 _
    have hi1 : 1 ≤ v53.toInt := by rw [hv53]; exact own_i1 _
    obtain ⟨T10, h10, X10, e10, E10, A10, D10, -, st10⟩ := newO X8 hx hZ hown (hw _ (List.mem_of_getElem? (i := 9) rfl)) (hw _ (List.mem_of_getElem? (i := 10) rfl)) (hw _ (List.mem_of_getElem? (i := 11) rfl)) eh8 (g := (mkF m 55 #[.val (.int y1), .val (.int y2), .val (.int y3), .val (.long y4), .second, .val (.long y5), .second, .val (.long y6), .second, .val (.int v6), .val (.int xnf), .val (.long v27), .second, .val (.int v42), .val (.long v53), .second, .unset, .unset, .unset, .unset, .unset, .unset, .unset, .unset, .unset, .unset, .unset, .unset] [])) rfl (hb hby at_55) (by decide) (by decide)
    obtain ⟨b10, g10⟩ : ∃ z, z = h0.size := ⟨_, rfl⟩
    rw [← g10] at A10 D10 st10
    have ne_wI_b10 : wI ≠ b10 := Nat.ne_of_lt (Nat.lt_of_lt_of_le F_ordinal_wI.lt (Nat.le_of_eq g10.symm))
    have ne_wN_b10 : wN ≠ b10 := Nat.ne_of_lt (Nat.lt_of_lt_of_le F_ordinal_wN.lt (Nat.le_of_eq g10.symm))
    have ne_wP_b10 : wP ≠ b10 := Nat.ne_of_lt (Nat.lt_of_lt_of_le F_ordinal_wP.lt (Nat.le_of_eq g10.symm))
    have g_b10 : n0 ≤ b10 := Nat.le_trans Z0 (Nat.le_of_eq g10.symm)
    have sz_b10 : h0.size ≤ b10 := Nat.le_trans K0.1 (Nat.le_of_eq g10.symm)
    have K10 : Keep h0 h10 [] := K0.ext E10
    have F11 : Sta Z h10 "com/example/tracebook/tracebook/model/Paging$Type" "INIT" "Lcom/example/tracebook/tracebook/model/Paging$Type;" (.ref wI) := S_INIT.ext E10
    have F12 : Sta Z h10 "com/example/tracebook/tracebook/model/Paging$Type" "NEXT" "Lcom/example/tracebook/tracebook/model/Paging$Type;" (.ref wN) := S_NEXT.ext E10
    have F13 : Sta Z h10 "com/example/tracebook/tracebook/model/Paging$Type" "PRE" "Lcom/example/tracebook/tracebook/model/Paging$Type;" (.ref wP) := S_PRE.ext E10
    have F14 : Exa Z h10 wI "com/example/tracebook/tracebook/model/Paging$Type" := E_wI.ext E10
    have F15 : Exa Z h10 wN "com/example/tracebook/tracebook/model/Paging$Type" := E_wN.ext E10
    have F16 : Exa Z h10 wP "com/example/tracebook/tracebook/model/Paging$Type" := E_wP.ext E10
    have F17 : Fld Z h10 wI "java/lang/Enum" "ordinal" "I" (.int (0 : Int32)) := F_ordinal_wI.ext E10
    have F18 : Fld Z h10 wN "java/lang/Enum" "ordinal" "I" (.int (1 : Int32)) := F_ordinal_wN.ext E10
    have F19 : Fld Z h10 wP "java/lang/Enum" "ordinal" "I" (.int (2 : Int32)) := F_ordinal_wP.ext E10
    have Z10 : n0 ≤ h10.size := Nat.le_trans Z0 E10.1
    have F20 : Fld Z h10 b10 "com/example/tracebook/tracebook/model/Paging" "type" "Lcom/example/tracebook/tracebook/model/Paging$Type;" .null := D10 (Or.inr (hw _ (List.mem_of_getElem? (i := 27) rfl))) (ty := (.object "com/example/tracebook/tracebook/model/Paging$Type")) (by decide)
    have F21 : Fld Z h10 b10 "com/example/tracebook/tracebook/model/Paging" "newestFirst" "Z" (.int (0 : Int32)) := D10 (Or.inr (hw _ (List.mem_of_getElem? (i := 29) rfl))) (ty := .boolean) (by decide)
    have F22 : Fld Z h10 b10 "com/example/tracebook/tracebook/model/Paging" "pageSize" "I" (.int (0 : Int32)) := D10 (Or.inr (hw _ (List.mem_of_getElem? (i := 31) rfl))) (ty := .int) (by decide)
    have F23 : Fld Z h10 b10 "com/example/tracebook/tracebook/model/Paging" "pageIndex" "J" (.long (0 : Int64)) := D10 (Or.inr (hw _ (List.mem_of_getElem? (i := 33) rfl))) (ty := .long) (by decide)
    have F24 : Fld Z h10 b10 "com/example/tracebook/tracebook/model/Paging" "recordTime" "J" (.long (0 : Int64)) := D10 (Or.inr (hw _ (List.mem_of_getElem? (i := 35) rfl))) (ty := .long) (by decide)
    obtain ⟨T25, X25, e25, st25⟩ := getS2 X10 hx hZ hown (host := "") (Or.inl (hw _ (List.mem_of_getElem? (i := 12) rfl))) Via.refl e10 F11 (g := (mkF m 59 #[.val (.int y1), .val (.int y2), .val (.int y3), .val (.long y4), .second, .val (.long y5), .second, .val (.long y6), .second, .val (.int v6), .val (.int xnf), .val (.long v27), .second, .val (.int v42), .val (.long v53), .second, .unset, .unset, .unset, .unset, .unset, .unset, .unset, .unset, .unset, .unset, .unset, .unset] [(.ref b10), (.ref b10)])) rfl (hb hby at_59)
    obtain ⟨_, _, ⟨T26, L26, k26, n26⟩, -, X26, ⟨Lc26, hQ26, l26, y26, z26⟩, st26⟩ := X25.specialBack hx (y := (⟨"com/example/tracebook/tracebook/model/Paging", "<init>", "(Lcom/example/tracebook/tracebook/model/Paging$Type;ZIJJ)V"⟩ : MethodName)) rfl hown (mvT hZ (hw _ (List.mem_of_getElem? (i := 15) rfl))) (mvT hZ (hw _ (List.mem_of_getElem? (i := 16) rfl))) (mvT hZ (hw _ (List.mem_of_getElem? (i := 17) rfl))) (by decide) (backOf (W := 1) (own_rm3 l Z a0 hw [] b10 wI xnf v42 v53 y5 h10 n0 Z10 A10 F20 F21 F22 F23 F24 g_b10) hZ (hw _ (List.mem_of_getElem? (i := 17) rfl)) (hw _ (List.mem_of_getElem? (i := 11) rfl)) (by decide) (by decide)) (g := (mkF m 70 #[.val (.int y1), .val (.int y2), .val (.int y3), .val (.long y4), .second, .val (.long y5), .second, .val (.long y6), .second, .val (.int v6), .val (.int xnf), .val (.long v27), .second, .val (.int v42), .val (.long v53), .second, .unset, .unset, .unset, .unset, .unset, .unset, .unset, .unset, .unset, .unset, .unset, .unset] [(.long y5), (.long v53), (.int v42), (.int xnf), (.ref wI), (.ref b10), (.ref b10)])) rfl (by rw [hml]; rfl) (Steps.refl _) (a := b10) (argsL := [(.ref wI), (.int xnf), (.int v42), (.long v53), (.long y5)]) (rest := [(.ref b10)]) (lenOf own_pd5 rfl) rfl (by show 2 * 0 + _ ≤ _; exact Nat.le_of_eq rfl) (hb hby at_70) (fun _ _ => ⟨rfl, e25, (by decide : 1 + 0 ≤ _), (by decide : 5 + 0 ≤ _)⟩)
    dsimp only [Pt.U, Pt.locs, Pt.cells, Pt.slots] at X26 l26 y26 z26 st26 hQ26
    subst l26 y26 z26
    obtain ⟨rfl, N26q, K26q, F27, F28, F29, F30, F31, F32⟩ := hQ26
    have K26 := K26q
    have KK26 : Keep h0 T26.heap [] := K10.trans K26 (allS (Or.inr sz_b10) all0)
    have F33 : Sta Z T26.heap "com/example/tracebook/tracebook/model/Paging$Type" "INIT" "Lcom/example/tracebook/tracebook/model/Paging$Type;" (.ref wI) := S_INIT.ext (own_ext KK26)
    have F34 : Sta Z T26.heap "com/example/tracebook/tracebook/model/Paging$Type" "NEXT" "Lcom/example/tracebook/tracebook/model/Paging$Type;" (.ref wN) := S_NEXT.ext (own_ext KK26)
    have F35 : Sta Z T26.heap "com/example/tracebook/tracebook/model/Paging$Type" "PRE" "Lcom/example/tracebook/tracebook/model/Paging$Type;" (.ref wP) := S_PRE.ext (own_ext KK26)
    have F36 : Exa Z T26.heap wI "com/example/tracebook/tracebook/model/Paging$Type" := F14.keep K26
    have F37 : Exa Z T26.heap wN "com/example/tracebook/tracebook/model/Paging$Type" := F15.keep K26
    have F38 : Exa Z T26.heap wP "com/example/tracebook/tracebook/model/Paging$Type" := F16.keep K26
    have F39 : Fld Z T26.heap wI "java/lang/Enum" "ordinal" "I" (.int (0 : Int32)) := F17.keep K26 (ninS ne_wI_b10 nin0)
    have F40 : Fld Z T26.heap wN "java/lang/Enum" "ordinal" "I" (.int (1 : Int32)) := F18.keep K26 (ninS ne_wN_b10 nin0)
    have F41 : Fld Z T26.heap wP "java/lang/Enum" "ordinal" "I" (.int (2 : Int32)) := F19.keep K26 (ninS ne_wP_b10 nin0)
    have F42 : Exa Z T26.heap b10 "com/example/tracebook/tracebook/model/Paging" := A10.keep K26
    have Z26 : n0 ≤ T26.heap.size := Nat.le_trans Z10 K26.1
    have N26 := Fr.app N8 N26q
    obtain ⟨cq43, kq43, q43a, q43b, q43c⟩ := isOf hZ rfl F27
    obtain ⟨_, _, ⟨T43, L43, k43, n43⟩, -, X43, ⟨Lc43, hQ43, l43, y43, z43⟩, st43⟩ := X26.virtualBack hx (y := (⟨"com/example/tracebook/tracebook/model/Paging", "walk", "(J)Lcom/example/tracebook/tracebook/model/Paging$Walk;"⟩ : MethodName)) (z := (⟨"com/example/tracebook/tracebook/model/Paging", "walk", "(J)Lcom/example/tracebook/tracebook/model/Paging$Walk;"⟩ : MethodName)) hown (mvT hZ (hw _ (List.mem_of_getElem? (i := 36) rfl))) (mvT hZ (hw _ (List.mem_of_getElem? (i := 37) rfl))) (notFace_of_selects (args := #[]) (mvT hZ (hw _ (List.mem_of_getElem? (i := 39) rfl)))) (mvT hZ (hw _ (List.mem_of_getElem? (i := 39) rfl))) (mvT hZ (hw _ (List.mem_of_getElem? (i := 38) rfl))) (by decide) (backOf (W := 0) (own_rm6_0 l Z a0 hw [] b10 v27 wI v42 v53 y5 T26.heap n0 Z26 F28 F36 F39 F30 F31 F32 (hs1)) hZ (hw _ (List.mem_of_getElem? (i := 40) rfl)) (hw _ (List.mem_of_getElem? (i := 11) rfl)) (by decide) (by decide)) q43a q43c (g := (mkF m 75 #[.val (.int y1), .val (.int y2), .val (.int y3), .val (.long y4), .second, .val (.long y5), .second, .val (.long y6), .second, .val (.int v6), .val (.int xnf), .val (.long v27), .second, .val (.int v42), .val (.long v53), .second, .unset, .unset, .unset, .unset, .unset, .unset, .unset, .unset, .unset, .unset, .unset, .unset] [(.long v27), (.ref b10)])) rfl (by rw [hml]; rfl) (Steps.refl _) (argsL := [(.long v27)]) (rest := []) (lenOf own_pd6 rfl) rfl (by show 2 * 0 + _ ≤ _; exact Nat.le_of_eq rfl) (hb hby at_75) (fun _ _ => ⟨rfl, rfl, (by decide : 1 + 1 ≤ _), (by decide : 5 + 4 ≤ _)⟩)
    dsimp only [Pt.U, Pt.locs, Pt.cells, Pt.slots] at X43 l43 y43 z43 st43 hQ43
    subst l43 y43 z43
    obtain ⟨b43xn, rfl, N43q, K43q, sz0_b43xn, lt_b43xn, F44, F45, F46, F47, F48⟩ := hQ43
    have K43 := K43q
    have ne_wI_b43xn : wI ≠ b43xn := Nat.ne_of_lt (Nat.lt_of_lt_of_le F39.lt sz0_b43xn)
    have ne_wN_b43xn : wN ≠ b43xn := Nat.ne_of_lt (Nat.lt_of_lt_of_le F40.lt sz0_b43xn)
    have ne_wP_b43xn : wP ≠ b43xn := Nat.ne_of_lt (Nat.lt_of_lt_of_le F41.lt sz0_b43xn)
    have ne_b10_b43xn : b10 ≠ b43xn := Nat.ne_of_lt (Nat.lt_of_lt_of_le F32.lt sz0_b43xn)
    have g_b43xn : n0 ≤ b43xn := Nat.le_trans Z26 sz0_b43xn
    have sz_b43xn : h0.size ≤ b43xn := Nat.le_trans KK26.1 sz0_b43xn
    have KK43 : Keep h0 T43.heap [] := KK26.trans K43 all0
    have F49 : Sta Z T43.heap "com/example/tracebook/tracebook/model/Paging$Type" "INIT" "Lcom/example/tracebook/tracebook/model/Paging$Type;" (.ref wI) := S_INIT.ext (own_ext KK43)
    have F50 : Sta Z T43.heap "com/example/tracebook/tracebook/model/Paging$Type" "NEXT" "Lcom/example/tracebook/tracebook/model/Paging$Type;" (.ref wN) := S_NEXT.ext (own_ext KK43)
    have F51 : Sta Z T43.heap "com/example/tracebook/tracebook/model/Paging$Type" "PRE" "Lcom/example/tracebook/tracebook/model/Paging$Type;" (.ref wP) := S_PRE.ext (own_ext KK43)
    have F52 : Exa Z T43.heap wI "com/example/tracebook/tracebook/model/Paging$Type" := F36.keep K43
    have F53 : Exa Z T43.heap wN "com/example/tracebook/tracebook/model/Paging$Type" := F37.keep K43
    have F54 : Exa Z T43.heap wP "com/example/tracebook/tracebook/model/Paging$Type" := F38.keep K43
    have F55 : Fld Z T43.heap wI "java/lang/Enum" "ordinal" "I" (.int (0 : Int32)) := F39.keep K43 nin0
    have F56 : Fld Z T43.heap wN "java/lang/Enum" "ordinal" "I" (.int (1 : Int32)) := F40.keep K43 nin0
    have F57 : Fld Z T43.heap wP "java/lang/Enum" "ordinal" "I" (.int (2 : Int32)) := F41.keep K43 nin0
    have F58 : Exa Z T43.heap b10 "com/example/tracebook/tracebook/model/Paging" := F27.keep K43
    have F59 : Fld Z T43.heap b10 "com/example/tracebook/tracebook/model/Paging" "type" "Lcom/example/tracebook/tracebook/model/Paging$Type;" (.ref wI) := F28.keep K43 nin0
    have F60 : Fld Z T43.heap b10 "com/example/tracebook/tracebook/model/Paging" "newestFirst" "Z" (.int (xnf &&& 1)) := F29.keep K43 nin0
    have F61 : Fld Z T43.heap b10 "com/example/tracebook/tracebook/model/Paging" "pageSize" "I" (.int v42) := F30.keep K43 nin0
    have F62 : Fld Z T43.heap b10 "com/example/tracebook/tracebook/model/Paging" "pageIndex" "J" (.long v53) := F31.keep K43 nin0
    have F63 : Fld Z T43.heap b10 "com/example/tracebook/tracebook/model/Paging" "recordTime" "J" (.long y5) := F32.keep K43 nin0
    have Z43 : n0 ≤ T43.heap.size := Nat.le_trans Z26 K43.1
    have N43 := Fr.app N26 N43q
    have pre64 : ∀ t, Steps p.tables e below (T43.setTop (mkF m 94 #[.val (.int y1), .val (.int y2), .val (.int y3), .val (.long y4), .second, .val (.long y5), .second, .val (.long y6), .second, .val (.int v6), .val (.int xnf), .val (.long v27), .second, .val (.int v42), .val (.long v53), .second, .val (.ref b43xn), .unset, .unset, .unset, .unset, .unset, .unset, .unset, .unset, .unset, .unset, .unset] [(.int (lcmpW (v27 - (v27 / (v42.toInt64)) * (v42.toInt64)) (0 : Int64))), (.long (v27 / (v42.toInt64)))])) t → Steps p.tables e below (s₁.setTop (entryFrame m #[(.int y1), (.int y2), (.int y3), (.long y4), (.long y5), (.long y6)] maxLocals)) t := by
      intro t k
      refine pre9 _ ?_
      show Steps p.tables e below (T8.setTop (mkF m 55 #[.val (.int y1), .val (.int y2), .val (.int y3), .val (.long y4), .second, .val (.long y5), .second, .val (.long y6), .second, .val (.int v6), .val (.int xnf), .val (.long v27), .second, .val (.int v42), .val (.long v53), .second, .unset, .unset, .unset, .unset, .unset, .unset, .unset, .unset, .unset, .unset, .unset, .unset] [])) _
      refine st10 _ ?_
      show Steps p.tables e below (T10.setTop (mkF m 58 #[.val (.int y1), .val (.int y2), .val (.int y3), .val (.long y4), .second, .val (.long y5), .second, .val (.long y6), .second, .val (.int v6), .val (.int xnf), .val (.long v27), .second, .val (.int v42), .val (.long v53), .second, .unset, .unset, .unset, .unset, .unset, .unset, .unset, .unset, .unset, .unset, .unset, .unset] [(.ref b10)])) _
      refine XS.dup X10.here hx rfl (hb hby at_58) rfl rfl ?_
      show Steps p.tables e below (T10.setTop (mkF m 59 #[.val (.int y1), .val (.int y2), .val (.int y3), .val (.long y4), .second, .val (.long y5), .second, .val (.long y6), .second, .val (.int v6), .val (.int xnf), .val (.long v27), .second, .val (.int v42), .val (.long v53), .second, .unset, .unset, .unset, .unset, .unset, .unset, .unset, .unset, .unset, .unset, .unset, .unset] [(.ref b10), (.ref b10)])) _
      refine st25 _ ?_
      show Steps p.tables e below (T25.setTop (mkF m 62 #[.val (.int y1), .val (.int y2), .val (.int y3), .val (.long y4), .second, .val (.long y5), .second, .val (.long y6), .second, .val (.int v6), .val (.int xnf), .val (.long v27), .second, .val (.int v42), .val (.long v53), .second, .unset, .unset, .unset, .unset, .unset, .unset, .unset, .unset, .unset, .unset, .unset, .unset] [(.ref wI), (.ref b10), (.ref b10)])) _
      refine XS.iload X25.here hx rfl (hb hby at_62) rfl ?_
      show Steps p.tables e below (T25.setTop (mkF m 64 #[.val (.int y1), .val (.int y2), .val (.int y3), .val (.long y4), .second, .val (.long y5), .second, .val (.long y6), .second, .val (.int v6), .val (.int xnf), .val (.long v27), .second, .val (.int v42), .val (.long v53), .second, .unset, .unset, .unset, .unset, .unset, .unset, .unset, .unset, .unset, .unset, .unset, .unset] [(.int xnf), (.ref wI), (.ref b10), (.ref b10)])) _
      refine XS.iload X25.here hx rfl (hb hby at_64) rfl ?_
      show Steps p.tables e below (T25.setTop (mkF m 66 #[.val (.int y1), .val (.int y2), .val (.int y3), .val (.long y4), .second, .val (.long y5), .second, .val (.long y6), .second, .val (.int v6), .val (.int xnf), .val (.long v27), .second, .val (.int v42), .val (.long v53), .second, .unset, .unset, .unset, .unset, .unset, .unset, .unset, .unset, .unset, .unset, .unset, .unset] [(.int v42), (.int xnf), (.ref wI), (.ref b10), (.ref b10)])) _
      refine XS.lload X25.here hx rfl (hb hby at_66) rfl ?_
      show Steps p.tables e below (T25.setTop (mkF m 68 #[.val (.int y1), .val (.int y2), .val (.int y3), .val (.long y4), .second, .val (.long y5), .second, .val (.long y6), .second, .val (.int v6), .val (.int xnf), .val (.long v27), .second, .val (.int v42), .val (.long v53), .second, .unset, .unset, .unset, .unset, .unset, .unset, .unset, .unset, .unset, .unset, .unset, .unset] [(.long v53), (.int v42), (.int xnf), (.ref wI), (.ref b10), (.ref b10)])) _
      refine XS.lload X25.here hx rfl (hb hby at_68) rfl ?_
      show Steps p.tables e below (T25.setTop (mkF m 70 #[.val (.int y1), .val (.int y2), .val (.int y3), .val (.long y4), .second, .val (.long y5), .second, .val (.long y6), .second, .val (.int v6), .val (.int xnf), .val (.long v27), .second, .val (.int v42), .val (.long v53), .second, .unset, .unset, .unset, .unset, .unset, .unset, .unset, .unset, .unset, .unset, .unset, .unset] [(.long y5), (.long v53), (.int v42), (.int xnf), (.ref wI), (.ref b10), (.ref b10)])) _
      refine st26.trans ?_
      show Steps p.tables e below (T26.setTop (mkF m 73 #[.val (.int y1), .val (.int y2), .val (.int y3), .val (.long y4), .second, .val (.long y5), .second, .val (.long y6), .second, .val (.int v6), .val (.int xnf), .val (.long v27), .second, .val (.int v42), .val (.long v53), .second, .unset, .unset, .unset, .unset, .unset, .unset, .unset, .unset, .unset, .unset, .unset, .unset] [(.ref b10)])) _
      refine XS.lload X26.here hx rfl (hb hby at_73) rfl ?_
      show Steps p.tables e below (T26.setTop (mkF m 75 #[.val (.int y1), .val (.int y2), .val (.int y3), .val (.long y4), .second, .val (.long y5), .second, .val (.long y6), .second, .val (.int v6), .val (.int xnf), .val (.long v27), .second, .val (.int v42), .val (.long v53), .second, .unset, .unset, .unset, .unset, .unset, .unset, .unset, .unset, .unset, .unset, .unset, .unset] [(.long v27), (.ref b10)])) _
      refine st43.trans ?_
      show Steps p.tables e below (T43.setTop (mkF m 78 #[.val (.int y1), .val (.int y2), .val (.int y3), .val (.long y4), .second, .val (.long y5), .second, .val (.long y6), .second, .val (.int v6), .val (.int xnf), .val (.long v27), .second, .val (.int v42), .val (.long v53), .second, .unset, .unset, .unset, .unset, .unset, .unset, .unset, .unset, .unset, .unset, .unset, .unset] [(.ref b43xn)])) _
      refine XS.astore X43.here hx rfl (hb hby at_78) rfl rfl (l' := #[.val (.int y1), .val (.int y2), .val (.int y3), .val (.long y4), .second, .val (.long y5), .second, .val (.long y6), .second, .val (.int v6), .val (.int xnf), .val (.long v27), .second, .val (.int v42), .val (.long v53), .second, .val (.ref b43xn), .unset, .unset, .unset, .unset, .unset, .unset, .unset, .unset, .unset, .unset, .unset]) rfl ?_
      show Steps p.tables e below (T43.setTop (mkF m 80 #[.val (.int y1), .val (.int y2), .val (.int y3), .val (.long y4), .second, .val (.long y5), .second, .val (.long y6), .second, .val (.int v6), .val (.int xnf), .val (.long v27), .second, .val (.int v42), .val (.long v53), .second, .val (.ref b43xn), .unset, .unset, .unset, .unset, .unset, .unset, .unset, .unset, .unset, .unset, .unset] [])) _
      refine XS.lload X43.here hx rfl (hb hby at_80) rfl ?_
      show Steps p.tables e below (T43.setTop (mkF m 82 #[.val (.int y1), .val (.int y2), .val (.int y3), .val (.long y4), .second, .val (.long y5), .second, .val (.long y6), .second, .val (.int v6), .val (.int xnf), .val (.long v27), .second, .val (.int v42), .val (.long v53), .second, .val (.ref b43xn), .unset, .unset, .unset, .unset, .unset, .unset, .unset, .unset, .unset, .unset, .unset] [(.long v27)])) _
      refine XS.iload X43.here hx rfl (hb hby at_82) rfl ?_
      show Steps p.tables e below (T43.setTop (mkF m 84 #[.val (.int y1), .val (.int y2), .val (.int y3), .val (.long y4), .second, .val (.long y5), .second, .val (.long y6), .second, .val (.int v6), .val (.int xnf), .val (.long v27), .second, .val (.int v42), .val (.long v53), .second, .val (.ref b43xn), .unset, .unset, .unset, .unset, .unset, .unset, .unset, .unset, .unset, .unset, .unset] [(.int v42), (.long v27)])) _
      refine XS.i2l X43.here hx rfl (hb hby at_84) rfl ?_
      show Steps p.tables e below (T43.setTop (mkF m 85 #[.val (.int y1), .val (.int y2), .val (.int y3), .val (.long y4), .second, .val (.long y5), .second, .val (.long y6), .second, .val (.int v6), .val (.int xnf), .val (.long v27), .second, .val (.int v42), .val (.long v53), .second, .val (.ref b43xn), .unset, .unset, .unset, .unset, .unset, .unset, .unset, .unset, .unset, .unset, .unset] [(.long (v42.toInt64)), (.long v27)])) _
      refine XS.ldiv X43.here hx rfl (hb hby at_85) rfl (own_ne0 hs1) ?_
      show Steps p.tables e below (T43.setTop (mkF m 86 #[.val (.int y1), .val (.int y2), .val (.int y3), .val (.long y4), .second, .val (.long y5), .second, .val (.long y6), .second, .val (.int v6), .val (.int xnf), .val (.long v27), .second, .val (.int v42), .val (.long v53), .second, .val (.ref b43xn), .unset, .unset, .unset, .unset, .unset, .unset, .unset, .unset, .unset, .unset, .unset] [(.long (v27 / (v42.toInt64)))])) _
      refine XS.lload X43.here hx rfl (hb hby at_86) rfl ?_
      show Steps p.tables e below (T43.setTop (mkF m 88 #[.val (.int y1), .val (.int y2), .val (.int y3), .val (.long y4), .second, .val (.long y5), .second, .val (.long y6), .second, .val (.int v6), .val (.int xnf), .val (.long v27), .second, .val (.int v42), .val (.long v53), .second, .val (.ref b43xn), .unset, .unset, .unset, .unset, .unset, .unset, .unset, .unset, .unset, .unset, .unset] [(.long v27), (.long (v27 / (v42.toInt64)))])) _
      refine XS.iload X43.here hx rfl (hb hby at_88) rfl ?_
      show Steps p.tables e below (T43.setTop (mkF m 90 #[.val (.int y1), .val (.int y2), .val (.int y3), .val (.long y4), .second, .val (.long y5), .second, .val (.long y6), .second, .val (.int v6), .val (.int xnf), .val (.long v27), .second, .val (.int v42), .val (.long v53), .second, .val (.ref b43xn), .unset, .unset, .unset, .unset, .unset, .unset, .unset, .unset, .unset, .unset, .unset] [(.int v42), (.long v27), (.long (v27 / (v42.toInt64)))])) _
      refine XS.i2l X43.here hx rfl (hb hby at_90) rfl ?_
      show Steps p.tables e below (T43.setTop (mkF m 91 #[.val (.int y1), .val (.int y2), .val (.int y3), .val (.long y4), .second, .val (.long y5), .second, .val (.long y6), .second, .val (.int v6), .val (.int xnf), .val (.long v27), .second, .val (.int v42), .val (.long v53), .second, .val (.ref b43xn), .unset, .unset, .unset, .unset, .unset, .unset, .unset, .unset, .unset, .unset, .unset] [(.long (v42.toInt64)), (.long v27), (.long (v27 / (v42.toInt64)))])) _
      refine XS.lrem X43.here hx rfl (hb hby at_91) rfl (own_ne0 hs1) ?_
      show Steps p.tables e below (T43.setTop (mkF m 92 #[.val (.int y1), .val (.int y2), .val (.int y3), .val (.long y4), .second, .val (.long y5), .second, .val (.long y6), .second, .val (.int v6), .val (.int xnf), .val (.long v27), .second, .val (.int v42), .val (.long v53), .second, .val (.ref b43xn), .unset, .unset, .unset, .unset, .unset, .unset, .unset, .unset, .unset, .unset, .unset] [(.long (v27 - (v27 / (v42.toInt64)) * (v42.toInt64))), (.long (v27 / (v42.toInt64)))])) _
      refine XS.lconst X43.here hx rfl (hb hby at_92) ?_
      show Steps p.tables e below (T43.setTop (mkF m 93 #[.val (.int y1), .val (.int y2), .val (.int y3), .val (.long y4), .second, .val (.long y5), .second, .val (.long y6), .second, .val (.int v6), .val (.int xnf), .val (.long v27), .second, .val (.int v42), .val (.long v53), .second, .val (.ref b43xn), .unset, .unset, .unset, .unset, .unset, .unset, .unset, .unset, .unset, .unset, .unset] [(.long (0 : Int64)), (.long (v27 - (v27 / (v42.toInt64)) * (v42.toInt64))), (.long (v27 / (v42.toInt64)))])) _
      refine XS.lcmp X43.here hx rfl (hb hby at_93) rfl ?_
      exact k
    obtain ⟨xr, hxr⟩ : ∃ w : Int64, w = (if (v27 - (v27 / (v42.toInt64)) * (v42.toInt64)) = (0 : Int64) then (0 : Int64) else (1 : Int64)) := ⟨_, rfl⟩
    have pre65 : ∀ t, Steps p.tables e below (T43.setTop (mkF m 102 #[.val (.int y1), .val (.int y2), .val (.int y3), .val (.long y4), .second, .val (.long y5), .second, .val (.long y6), .second, .val (.int v6), .val (.int xnf), .val (.long v27), .second, .val (.int v42), .val (.long v53), .second, .val (.ref b43xn), .unset, .unset, .unset, .unset, .unset, .unset, .unset, .unset, .unset, .unset, .unset] [(.long xr), (.long (v27 / (v42.toInt64)))])) t → Steps p.tables e below (s₁.setTop (entryFrame m #[(.int y1), (.int y2), (.int y3), (.long y4), (.long y5), (.long y6)] maxLocals)) t := by
      intro t k
      refine pre64 _ ?_
      by_cases hm94 : (v27 - (v27 / (v42.toInt64)) * (v42.toInt64)) = (0 : Int64)
      · have hq := hxr
        rw [if_pos hm94] at hq
        rw [hq] at k
        show Steps p.tables e below (T43.setTop (mkF m 94 #[.val (.int y1), .val (.int y2), .val (.int y3), .val (.long y4), .second, .val (.long y5), .second, .val (.long y6), .second, .val (.int v6), .val (.int xnf), .val (.long v27), .second, .val (.int v42), .val (.long v53), .second, .val (.ref b43xn), .unset, .unset, .unset, .unset, .unset, .unset, .unset, .unset, .unset, .unset, .unset] [(.int (lcmpW (v27 - (v27 / (v42.toInt64)) * (v42.toInt64)) (0 : Int64))), (.long (v27 / (v42.toInt64)))])) _
        refine XS.ifYes X43.here hx rfl (pc0 := 94) (pc' := 101) rfl (hb hby at_94) rfl ((if0 _ _).trans (teq ((lw_eq (v27 - (v27 / (v42.toInt64)) * (v42.toInt64)) (0 : Int64)).mpr hm94)).1) (by decide) (by decide) ?_
        show Steps p.tables e below (T43.setTop (mkF m 101 #[.val (.int y1), .val (.int y2), .val (.int y3), .val (.long y4), .second, .val (.long y5), .second, .val (.long y6), .second, .val (.int v6), .val (.int xnf), .val (.long v27), .second, .val (.int v42), .val (.long v53), .second, .val (.ref b43xn), .unset, .unset, .unset, .unset, .unset, .unset, .unset, .unset, .unset, .unset, .unset] [(.long (v27 / (v42.toInt64)))])) _
        refine XS.lconst X43.here hx rfl (hb hby at_101) ?_
        exact k
      · have hq := hxr
        rw [if_neg hm94] at hq
        rw [hq] at k
        show Steps p.tables e below (T43.setTop (mkF m 94 #[.val (.int y1), .val (.int y2), .val (.int y3), .val (.long y4), .second, .val (.long y5), .second, .val (.long y6), .second, .val (.int v6), .val (.int xnf), .val (.long v27), .second, .val (.int v42), .val (.long v53), .second, .val (.ref b43xn), .unset, .unset, .unset, .unset, .unset, .unset, .unset, .unset, .unset, .unset, .unset] [(.int (lcmpW (v27 - (v27 / (v42.toInt64)) * (v42.toInt64)) (0 : Int64))), (.long (v27 / (v42.toInt64)))])) _
        refine XS.ifNo X43.here hx rfl (hb hby at_94) rfl ((if0 _ _).trans (feq (fun z => hm94 ((lw_eq (v27 - (v27 / (v42.toInt64)) * (v42.toInt64)) (0 : Int64)).mp z))).1) ?_
        show Steps p.tables e below (T43.setTop (mkF m 97 #[.val (.int y1), .val (.int y2), .val (.int y3), .val (.long y4), .second, .val (.long y5), .second, .val (.long y6), .second, .val (.int v6), .val (.int xnf), .val (.long v27), .second, .val (.int v42), .val (.long v53), .second, .val (.ref b43xn), .unset, .unset, .unset, .unset, .unset, .unset, .unset, .unset, .unset, .unset, .unset] [(.long (v27 / (v42.toInt64)))])) _
        refine XS.lconst X43.here hx rfl (hb hby at_97) ?_
        show Steps p.tables e below (T43.setTop (mkF m 98 #[.val (.int y1), .val (.int y2), .val (.int y3), .val (.long y4), .second, .val (.long y5), .second, .val (.long y6), .second, .val (.int v6), .val (.int xnf), .val (.long v27), .second, .val (.int v42), .val (.long v53), .second, .val (.ref b43xn), .unset, .unset, .unset, .unset, .unset, .unset, .unset, .unset, .unset, .unset, .unset] [(.long (1 : Int64)), (.long (v27 / (v42.toInt64)))])) _
        refine XS.goto X43.here hx rfl (pc0 := 98) (pc' := 102) rfl (hb hby at_98) (by decide) (by decide) ?_
        exact k
    obtain ⟨v103, hv103⟩ : ∃ w : Int64, w = ((v27 / (v42.toInt64)) + xr) := ⟨_, rfl⟩
    have pre66 : ∀ t, Steps p.tables e below (T43.setTop (mkF m 105 #[.val (.int y1), .val (.int y2), .val (.int y3), .val (.long y4), .second, .val (.long y5), .second, .val (.long y6), .second, .val (.int v6), .val (.int xnf), .val (.long v27), .second, .val (.int v42), .val (.long v53), .second, .val (.ref b43xn), .val (.long v103), .second, .unset, .unset, .unset, .unset, .unset, .unset, .unset, .unset, .unset] [])) t → Steps p.tables e below (s₁.setTop (entryFrame m #[(.int y1), (.int y2), (.int y3), (.long y4), (.long y5), (.long y6)] maxLocals)) t := by
      intro t k
      rw [hv103] at k
      refine pre65 _ ?_
      show Steps p.tables e below (T43.setTop (mkF m 102 #[.val (.int y1), .val (.int y2), .val (.int y3), .val (.long y4), .second, .val (.long y5), .second, .val (.long y6), .second, .val (.int v6), .val (.int xnf), .val (.long v27), .second, .val (.int v42), .val (.long v53), .second, .val (.ref b43xn), .unset, .unset, .unset, .unset, .unset, .unset, .unset, .unset, .unset, .unset, .unset] [(.long xr), (.long (v27 / (v42.toInt64)))])) _
      refine XS.ladd X43.here hx rfl (hb hby at_102) rfl ?_
      show Steps p.tables e below (T43.setTop (mkF m 103 #[.val (.int y1), .val (.int y2), .val (.int y3), .val (.long y4), .second, .val (.long y5), .second, .val (.long y6), .second, .val (.int v6), .val (.int xnf), .val (.long v27), .second, .val (.int v42), .val (.long v53), .second, .val (.ref b43xn), .unset, .unset, .unset, .unset, .unset, .unset, .unset, .unset, .unset, .unset, .unset] [(.long ((v27 / (v42.toInt64)) + xr))])) _
      refine XS.lstore X43.here hx rfl (hb hby at_103) rfl (l' := #[.val (.int y1), .val (.int y2), .val (.int y3), .val (.long y4), .second, .val (.long y5), .second, .val (.long y6), .second, .val (.int v6), .val (.int xnf), .val (.long v27), .second, .val (.int v42), .val (.long v53), .second, .val (.ref b43xn), .val (.long ((v27 / (v42.toInt64)) + xr)), .second, .unset, .unset, .unset, .unset, .unset, .unset, .unset, .unset, .unset]) rfl ?_
      exact k
    have pre67 : ∀ t, Steps p.tables e below (T43.setTop (mkF m 110 #[.val (.int y1), .val (.int y2), .val (.int y3), .val (.long y4), .second, .val (.long y5), .second, .val (.long y6), .second, .val (.int v6), .val (.int xnf), .val (.long v27), .second, .val (.int v42), .val (.long v53), .second, .val (.ref b43xn), .val (.long v103), .second, .unset, .unset, .unset, .unset, .unset, .unset, .unset, .unset, .unset] [(.int (lcmpW v53 v103))])) t → Steps p.tables e below (s₁.setTop (entryFrame m #[(.int y1), (.int y2), (.int y3), (.long y4), (.long y5), (.long y6)] maxLocals)) t := by
      intro t k
      refine pre66 _ ?_
      show Steps p.tables e below (T43.setTop (mkF m 105 #[.val (.int y1), .val (.int y2), .val (.int y3), .val (.long y4), .second, .val (.long y5), .second, .val (.long y6), .second, .val (.int v6), .val (.int xnf), .val (.long v27), .second, .val (.int v42), .val (.long v53), .second, .val (.ref b43xn), .val (.long v103), .second, .unset, .unset, .unset, .unset, .unset, .unset, .unset, .unset, .unset] [])) _
      refine XS.lload X43.here hx rfl (hb hby at_105) rfl ?_
      show Steps p.tables e below (T43.setTop (mkF m 107 #[.val (.int y1), .val (.int y2), .val (.int y3), .val (.long y4), .second, .val (.long y5), .second, .val (.long y6), .second, .val (.int v6), .val (.int xnf), .val (.long v27), .second, .val (.int v42), .val (.long v53), .second, .val (.ref b43xn), .val (.long v103), .second, .unset, .unset, .unset, .unset, .unset, .unset, .unset, .unset, .unset] [(.long v53)])) _
      refine XS.lload X43.here hx rfl (hb hby at_107) rfl ?_
      show Steps p.tables e below (T43.setTop (mkF m 109 #[.val (.int y1), .val (.int y2), .val (.int y3), .val (.long y4), .second, .val (.long y5), .second, .val (.long y6), .second, .val (.int v6), .val (.int xnf), .val (.long v27), .second, .val (.int v42), .val (.long v53), .second, .val (.ref b43xn), .val (.long v103), .second, .unset, .unset, .unset, .unset, .unset, .unset, .unset, .unset, .unset] [(.long v103), (.long v53)])) _
      refine XS.lcmp X43.here hx rfl (hb hby at_109) rfl ?_
      exact k
    by_cases hc110 : v103 < v53
    · have g1 := own_L1 hs1 hi1 ht0 hxr hv103 hc110
      obtain ⟨cq68, kq68, q68a, q68b, q68c⟩ := isOf hZ rfl F44
      obtain ⟨_, _, ⟨T68, L68, k68, n68⟩, -, X68, ⟨Lc68, hQ68, l68, y68, z68⟩, st68⟩ := X43.virtualBack hx (y := (⟨"com/example/tracebook/tracebook/model/Paging$Walk", "backward", "()Z"⟩ : MethodName)) (z := (⟨"com/example/tracebook/tracebook/model/Paging$Walk", "backward", "()Z"⟩ : MethodName)) hown (mvT hZ (hw _ (List.mem_of_getElem? (i := 66) rfl))) (mvT hZ (hw _ (List.mem_of_getElem? (i := 67) rfl))) (notFace_of_selects (args := #[]) (mvT hZ (hw _ (List.mem_of_getElem? (i := 69) rfl)))) (mvT hZ (hw _ (List.mem_of_getElem? (i := 69) rfl))) (mvT hZ (hw _ (List.mem_of_getElem? (i := 68) rfl))) (by decide) (backOf (W := 0) (own_rm9 l Z a0 hw [] b43xn (own_bw v53 v42 v27) T43.heap n0 Z43 F45) hZ (hw _ (List.mem_of_getElem? (i := 70) rfl)) (hw _ (List.mem_of_getElem? (i := 53) rfl)) (by decide) (by decide)) q68a q68c (g := (mkF m 115 #[.val (.int y1), .val (.int y2), .val (.int y3), .val (.long y4), .second, .val (.long y5), .second, .val (.long y6), .second, .val (.int v6), .val (.int xnf), .val (.long v27), .second, .val (.int v42), .val (.long v53), .second, .val (.ref b43xn), .val (.long v103), .second, .unset, .unset, .unset, .unset, .unset, .unset, .unset, .unset, .unset] [(.ref b43xn)])) rfl (by rw [hml]; rfl) (Steps.refl _) (argsL := []) (rest := []) (lenOf own_pd7 rfl) rfl (by show 2 * 0 + _ ≤ _; exact Nat.le_of_eq rfl) (hb hby at_115) (fun _ _ => ⟨rfl, rfl, (by decide : 2 + 0 ≤ _), (by decide : 9 + 0 ≤ _)⟩)
      dsimp only [Pt.U, Pt.locs, Pt.cells, Pt.slots] at X68 l68 y68 z68 st68 hQ68
      subst l68 y68 z68
      obtain ⟨rfl, N68q, eh68⟩ := hQ68
      have N68 := Fr.app N43 N68q
      have hd69 : (nar .boolean (own_bw v53 v42 v27)) = (0 : Int32) := (by unfold own_bw; rw [if_neg g1]; rfl)
      obtain ⟨cq70, kq70, q70a, q70b, q70c⟩ := isOf hZ eh68 F44
      obtain ⟨_, _, ⟨T70, L70, k70, n70⟩, -, X70, ⟨Lc70, hQ70, l70, y70, z70⟩, st70⟩ := X68.virtualBack hx (y := (⟨"com/example/tracebook/tracebook/model/Paging$Walk", "from", "()J"⟩ : MethodName)) (z := (⟨"com/example/tracebook/tracebook/model/Paging$Walk", "from", "()J"⟩ : MethodName)) hown (mvT hZ (hw _ (List.mem_of_getElem? (i := 71) rfl))) (mvT hZ (hw _ (List.mem_of_getElem? (i := 72) rfl))) (notFace_of_selects (args := #[]) (mvT hZ (hw _ (List.mem_of_getElem? (i := 74) rfl)))) (mvT hZ (hw _ (List.mem_of_getElem? (i := 74) rfl))) (mvT hZ (hw _ (List.mem_of_getElem? (i := 73) rfl))) (by decide) (backOf (W := 0) (own_rm10 l Z a0 hw [] b43xn (0 : Int64) T43.heap n0 Z43 F46) hZ (hw _ (List.mem_of_getElem? (i := 75) rfl)) (hw _ (List.mem_of_getElem? (i := 53) rfl)) (by decide) (by decide)) q70a q70c (g := (mkF m 123 #[.val (.int y1), .val (.int y2), .val (.int y3), .val (.long y4), .second, .val (.long y5), .second, .val (.long y6), .second, .val (.int v6), .val (.int xnf), .val (.long v27), .second, .val (.int v42), .val (.long v53), .second, .val (.ref b43xn), .val (.long v103), .second, .unset, .unset, .unset, .unset, .unset, .unset, .unset, .unset, .unset] [(.ref b43xn)])) rfl (by rw [hml]; rfl) (Steps.refl _) (argsL := []) (rest := []) (lenOf own_pd8 rfl) rfl (by show 2 * 0 + _ ≤ _; exact Nat.le_of_eq rfl) (hb hby at_123) (fun _ _ => ⟨rfl, eh68, (by decide : 2 + 0 ≤ _), (by decide : 9 + 0 ≤ _)⟩)
      dsimp only [Pt.U, Pt.locs, Pt.cells, Pt.slots] at X70 l70 y70 z70 st70 hQ70
      subst l70 y70 z70
      obtain ⟨rfl, N70q, eh70⟩ := hQ70
      have N70 := Fr.app N68 N70q
      obtain ⟨cq71, kq71, q71a, q71b, q71c⟩ := isOf hZ eh70 F44
      obtain ⟨_, _, ⟨T71, L71, k71, n71⟩, -, X71, ⟨Lc71, hQ71, l71, y71, z71⟩, st71⟩ := X70.virtualBack hx (y := (⟨"com/example/tracebook/tracebook/model/Paging$Walk", "skip", "()J"⟩ : MethodName)) (z := (⟨"com/example/tracebook/tracebook/model/Paging$Walk", "skip", "()J"⟩ : MethodName)) hown (mvT hZ (hw _ (List.mem_of_getElem? (i := 76) rfl))) (mvT hZ (hw _ (List.mem_of_getElem? (i := 77) rfl))) (notFace_of_selects (args := #[]) (mvT hZ (hw _ (List.mem_of_getElem? (i := 79) rfl)))) (mvT hZ (hw _ (List.mem_of_getElem? (i := 79) rfl))) (mvT hZ (hw _ (List.mem_of_getElem? (i := 78) rfl))) (by decide) (backOf (W := 0) (own_rm11 l Z a0 hw [] b43xn (own_sk v53 v42 v27) T43.heap n0 Z43 F47) hZ (hw _ (List.mem_of_getElem? (i := 80) rfl)) (hw _ (List.mem_of_getElem? (i := 53) rfl)) (by decide) (by decide)) q71a q71c (g := (mkF m 133 #[.val (.int y1), .val (.int y2), .val (.int y3), .val (.long y4), .second, .val (.long y5), .second, .val (.long y6), .second, .val (.int v6), .val (.int xnf), .val (.long v27), .second, .val (.int v42), .val (.long v53), .second, .val (.ref b43xn), .val (.long v103), .second, .unset, .unset, .unset, .unset, .unset, .unset, .unset, .unset, .unset] [(.ref b43xn)])) rfl (by rw [hml]; rfl) (Steps.refl _) (argsL := []) (rest := []) (lenOf own_pd8 rfl) rfl (by show 2 * 0 + _ ≤ _; exact Nat.le_of_eq rfl) (hb hby at_133) (fun _ _ => ⟨rfl, eh70, (by decide : 2 + 0 ≤ _), (by decide : 9 + 0 ≤ _)⟩)
      dsimp only [Pt.U, Pt.locs, Pt.cells, Pt.slots] at X71 l71 y71 z71 st71 hQ71
      subst l71 y71 z71
      obtain ⟨rfl, N71q, eh71⟩ := hQ71
      have N71 := Fr.app N70 N71q
      have hd72 : (own_sk v53 v42 v27) = (0 : Int64) := (by unfold own_sk; rw [if_neg g1])
      obtain ⟨cq73, kq73, q73a, q73b, q73c⟩ := isOf hZ eh71 F44
      obtain ⟨_, _, ⟨T73, L73, k73, n73⟩, -, X73, ⟨Lc73, hQ73, l73, y73, z73⟩, st73⟩ := X71.virtualBack hx (y := (⟨"com/example/tracebook/tracebook/model/Paging$Walk", "take", "()I"⟩ : MethodName)) (z := (⟨"com/example/tracebook/tracebook/model/Paging$Walk", "take", "()I"⟩ : MethodName)) hown (mvT hZ (hw _ (List.mem_of_getElem? (i := 81) rfl))) (mvT hZ (hw _ (List.mem_of_getElem? (i := 82) rfl))) (notFace_of_selects (args := #[]) (mvT hZ (hw _ (List.mem_of_getElem? (i := 84) rfl)))) (mvT hZ (hw _ (List.mem_of_getElem? (i := 84) rfl))) (mvT hZ (hw _ (List.mem_of_getElem? (i := 83) rfl))) (by decide) (backOf (W := 0) (own_rm12 l Z a0 hw [] b43xn (own_tk v53 v42 v27) T43.heap n0 Z43 F48) hZ (hw _ (List.mem_of_getElem? (i := 85) rfl)) (hw _ (List.mem_of_getElem? (i := 53) rfl)) (by decide) (by decide)) q73a q73c (g := (mkF m 143 #[.val (.int y1), .val (.int y2), .val (.int y3), .val (.long y4), .second, .val (.long y5), .second, .val (.long y6), .second, .val (.int v6), .val (.int xnf), .val (.long v27), .second, .val (.int v42), .val (.long v53), .second, .val (.ref b43xn), .val (.long v103), .second, .unset, .unset, .unset, .unset, .unset, .unset, .unset, .unset, .unset] [(.ref b43xn)])) rfl (by rw [hml]; rfl) (Steps.refl _) (argsL := []) (rest := []) (lenOf own_pd1 rfl) rfl (by show 2 * 0 + _ ≤ _; exact Nat.le_of_eq rfl) (hb hby at_143) (fun _ _ => ⟨rfl, eh71, (by decide : 2 + 0 ≤ _), (by decide : 9 + 0 ≤ _)⟩)
      dsimp only [Pt.U, Pt.locs, Pt.cells, Pt.slots] at X73 l73 y73 z73 st73 hQ73
      subst l73 y73 z73
      obtain ⟨rfl, N73q, eh73⟩ := hQ73
      have N73 := Fr.app N71 N73q
      have hd74 : (own_tk v53 v42 v27) = (0 : Int32) := (by unfold own_tk; rw [if_neg g1])
      obtain ⟨fs, hr, hrun, hended, hW, hsame⟩ := X73.leave (v := some (.int (1 : Int32))) (fun h => by rw [Bd.returns] at h; cases h)
      refine ⟨_, _, pre67 _ ?_, hrun, hended, _, _, rfl, ?_, ⟨_, rfl⟩, hW, hsame.mono (by decide) (by decide)⟩
      · show Steps p.tables e below (T43.setTop (mkF m 110 #[.val (.int y1), .val (.int y2), .val (.int y3), .val (.long y4), .second, .val (.long y5), .second, .val (.long y6), .second, .val (.int v6), .val (.int xnf), .val (.long v27), .second, .val (.int v42), .val (.long v53), .second, .val (.ref b43xn), .val (.long v103), .second, .unset, .unset, .unset, .unset, .unset, .unset, .unset, .unset, .unset] [(.int (lcmpW v53 v103))])) _
        refine XS.ifNo X43.here hx rfl (hb hby at_110) rfl ((if0 _ _).trans (tlt ((lw_gt v53 v103).mpr hc110)).2.2.2) ?_
        show Steps p.tables e below (T43.setTop (mkF m 113 #[.val (.int y1), .val (.int y2), .val (.int y3), .val (.long y4), .second, .val (.long y5), .second, .val (.long y6), .second, .val (.int v6), .val (.int xnf), .val (.long v27), .second, .val (.int v42), .val (.long v53), .second, .val (.ref b43xn), .val (.long v103), .second, .unset, .unset, .unset, .unset, .unset, .unset, .unset, .unset, .unset] [])) _
        refine XS.aload X43.here hx rfl (hb hby at_113) rfl rfl ?_
        show Steps p.tables e below (T43.setTop (mkF m 115 #[.val (.int y1), .val (.int y2), .val (.int y3), .val (.long y4), .second, .val (.long y5), .second, .val (.long y6), .second, .val (.int v6), .val (.int xnf), .val (.long v27), .second, .val (.int v42), .val (.long v53), .second, .val (.ref b43xn), .val (.long v103), .second, .unset, .unset, .unset, .unset, .unset, .unset, .unset, .unset, .unset] [(.ref b43xn)])) _
        refine st68.trans ?_
        show Steps p.tables e below (T68.setTop (mkF m 118 #[.val (.int y1), .val (.int y2), .val (.int y3), .val (.long y4), .second, .val (.long y5), .second, .val (.long y6), .second, .val (.int v6), .val (.int xnf), .val (.long v27), .second, .val (.int v42), .val (.long v53), .second, .val (.ref b43xn), .val (.long v103), .second, .unset, .unset, .unset, .unset, .unset, .unset, .unset, .unset, .unset] [(.int (nar .boolean (own_bw v53 v42 v27)))])) _
        refine XS.ifNo X68.here hx rfl (hb hby at_118) rfl ((if0 _ _).trans (teq hd69).2) ?_
        show Steps p.tables e below (T68.setTop (mkF m 121 #[.val (.int y1), .val (.int y2), .val (.int y3), .val (.long y4), .second, .val (.long y5), .second, .val (.long y6), .second, .val (.int v6), .val (.int xnf), .val (.long v27), .second, .val (.int v42), .val (.long v53), .second, .val (.ref b43xn), .val (.long v103), .second, .unset, .unset, .unset, .unset, .unset, .unset, .unset, .unset, .unset] [])) _
        refine XS.aload X68.here hx rfl (hb hby at_121) rfl rfl ?_
        show Steps p.tables e below (T68.setTop (mkF m 123 #[.val (.int y1), .val (.int y2), .val (.int y3), .val (.long y4), .second, .val (.long y5), .second, .val (.long y6), .second, .val (.int v6), .val (.int xnf), .val (.long v27), .second, .val (.int v42), .val (.long v53), .second, .val (.ref b43xn), .val (.long v103), .second, .unset, .unset, .unset, .unset, .unset, .unset, .unset, .unset, .unset] [(.ref b43xn)])) _
        refine st70.trans ?_
        show Steps p.tables e below (T70.setTop (mkF m 126 #[.val (.int y1), .val (.int y2), .val (.int y3), .val (.long y4), .second, .val (.long y5), .second, .val (.long y6), .second, .val (.int v6), .val (.int xnf), .val (.long v27), .second, .val (.int v42), .val (.long v53), .second, .val (.ref b43xn), .val (.long v103), .second, .unset, .unset, .unset, .unset, .unset, .unset, .unset, .unset, .unset] [(.long (0 : Int64))])) _
        refine XS.lconst X70.here hx rfl (hb hby at_126) ?_
        show Steps p.tables e below (T70.setTop (mkF m 127 #[.val (.int y1), .val (.int y2), .val (.int y3), .val (.long y4), .second, .val (.long y5), .second, .val (.long y6), .second, .val (.int v6), .val (.int xnf), .val (.long v27), .second, .val (.int v42), .val (.long v53), .second, .val (.ref b43xn), .val (.long v103), .second, .unset, .unset, .unset, .unset, .unset, .unset, .unset, .unset, .unset] [(.long (0 : Int64)), (.long (0 : Int64))])) _
        refine XS.lcmp X70.here hx rfl (hb hby at_127) rfl ?_
        show Steps p.tables e below (T70.setTop (mkF m 128 #[.val (.int y1), .val (.int y2), .val (.int y3), .val (.long y4), .second, .val (.long y5), .second, .val (.long y6), .second, .val (.int v6), .val (.int xnf), .val (.long v27), .second, .val (.int v42), .val (.long v53), .second, .val (.ref b43xn), .val (.long v103), .second, .unset, .unset, .unset, .unset, .unset, .unset, .unset, .unset, .unset] [(.int (lcmpW (0 : Int64) (0 : Int64)))])) _
        refine XS.ifNo X70.here hx rfl (hb hby at_128) rfl ((if0 _ _).trans (teq ((lw_eq (0 : Int64) (0 : Int64)).mpr rfl)).2) ?_
        show Steps p.tables e below (T70.setTop (mkF m 131 #[.val (.int y1), .val (.int y2), .val (.int y3), .val (.long y4), .second, .val (.long y5), .second, .val (.long y6), .second, .val (.int v6), .val (.int xnf), .val (.long v27), .second, .val (.int v42), .val (.long v53), .second, .val (.ref b43xn), .val (.long v103), .second, .unset, .unset, .unset, .unset, .unset, .unset, .unset, .unset, .unset] [])) _
        refine XS.aload X70.here hx rfl (hb hby at_131) rfl rfl ?_
        show Steps p.tables e below (T70.setTop (mkF m 133 #[.val (.int y1), .val (.int y2), .val (.int y3), .val (.long y4), .second, .val (.long y5), .second, .val (.long y6), .second, .val (.int v6), .val (.int xnf), .val (.long v27), .second, .val (.int v42), .val (.long v53), .second, .val (.ref b43xn), .val (.long v103), .second, .unset, .unset, .unset, .unset, .unset, .unset, .unset, .unset, .unset] [(.ref b43xn)])) _
        refine st71.trans ?_
        show Steps p.tables e below (T71.setTop (mkF m 136 #[.val (.int y1), .val (.int y2), .val (.int y3), .val (.long y4), .second, .val (.long y5), .second, .val (.long y6), .second, .val (.int v6), .val (.int xnf), .val (.long v27), .second, .val (.int v42), .val (.long v53), .second, .val (.ref b43xn), .val (.long v103), .second, .unset, .unset, .unset, .unset, .unset, .unset, .unset, .unset, .unset] [(.long (own_sk v53 v42 v27))])) _
        refine XS.lconst X71.here hx rfl (hb hby at_136) ?_
        show Steps p.tables e below (T71.setTop (mkF m 137 #[.val (.int y1), .val (.int y2), .val (.int y3), .val (.long y4), .second, .val (.long y5), .second, .val (.long y6), .second, .val (.int v6), .val (.int xnf), .val (.long v27), .second, .val (.int v42), .val (.long v53), .second, .val (.ref b43xn), .val (.long v103), .second, .unset, .unset, .unset, .unset, .unset, .unset, .unset, .unset, .unset] [(.long (0 : Int64)), (.long (own_sk v53 v42 v27))])) _
        refine XS.lcmp X71.here hx rfl (hb hby at_137) rfl ?_
        show Steps p.tables e below (T71.setTop (mkF m 138 #[.val (.int y1), .val (.int y2), .val (.int y3), .val (.long y4), .second, .val (.long y5), .second, .val (.long y6), .second, .val (.int v6), .val (.int xnf), .val (.long v27), .second, .val (.int v42), .val (.long v53), .second, .val (.ref b43xn), .val (.long v103), .second, .unset, .unset, .unset, .unset, .unset, .unset, .unset, .unset, .unset] [(.int (lcmpW (own_sk v53 v42 v27) (0 : Int64)))])) _
        refine XS.ifNo X71.here hx rfl (hb hby at_138) rfl ((if0 _ _).trans (teq ((lw_eq (own_sk v53 v42 v27) (0 : Int64)).mpr hd72)).2) ?_
        show Steps p.tables e below (T71.setTop (mkF m 141 #[.val (.int y1), .val (.int y2), .val (.int y3), .val (.long y4), .second, .val (.long y5), .second, .val (.long y6), .second, .val (.int v6), .val (.int xnf), .val (.long v27), .second, .val (.int v42), .val (.long v53), .second, .val (.ref b43xn), .val (.long v103), .second, .unset, .unset, .unset, .unset, .unset, .unset, .unset, .unset, .unset] [])) _
        refine XS.aload X71.here hx rfl (hb hby at_141) rfl rfl ?_
        show Steps p.tables e below (T71.setTop (mkF m 143 #[.val (.int y1), .val (.int y2), .val (.int y3), .val (.long y4), .second, .val (.long y5), .second, .val (.long y6), .second, .val (.int v6), .val (.int xnf), .val (.long v27), .second, .val (.int v42), .val (.long v53), .second, .val (.ref b43xn), .val (.long v103), .second, .unset, .unset, .unset, .unset, .unset, .unset, .unset, .unset, .unset] [(.ref b43xn)])) _
        refine st73.trans ?_
        show Steps p.tables e below (T73.setTop (mkF m 146 #[.val (.int y1), .val (.int y2), .val (.int y3), .val (.long y4), .second, .val (.long y5), .second, .val (.long y6), .second, .val (.int v6), .val (.int xnf), .val (.long v27), .second, .val (.int v42), .val (.long v53), .second, .val (.ref b43xn), .val (.long v103), .second, .unset, .unset, .unset, .unset, .unset, .unset, .unset, .unset, .unset] [(.int (own_tk v53 v42 v27))])) _
        refine XS.ifNo X73.here hx rfl (hb hby at_146) rfl ((if0 _ _).trans (teq hd74).2) ?_
        show Steps p.tables e below (T73.setTop (mkF m 149 #[.val (.int y1), .val (.int y2), .val (.int y3), .val (.long y4), .second, .val (.long y5), .second, .val (.long y6), .second, .val (.int v6), .val (.int xnf), .val (.long v27), .second, .val (.int v42), .val (.long v53), .second, .val (.ref b43xn), .val (.long v103), .second, .unset, .unset, .unset, .unset, .unset, .unset, .unset, .unset, .unset] [])) _
        refine XS.iconst X73.here hx rfl (hb hby at_149) ?_
        show Steps p.tables e below (T73.setTop (mkF m 150 #[.val (.int y1), .val (.int y2), .val (.int y3), .val (.long y4), .second, .val (.long y5), .second, .val (.long y6), .second, .val (.int v6), .val (.int xnf), .val (.long v27), .second, .val (.int v42), .val (.long v53), .second, .val (.ref b43xn), .val (.long v103), .second, .unset, .unset, .unset, .unset, .unset, .unset, .unset, .unset, .unset] [(.int (1 : Int32))])) _
        refine XS.goto X73.here hx rfl (pc0 := 150) (pc' := 154) rfl (hb hby at_150) (by decide) (by decide) ?_
        show Steps p.tables e below (T73.setTop (mkF m 154 #[.val (.int y1), .val (.int y2), .val (.int y3), .val (.long y4), .second, .val (.long y5), .second, .val (.long y6), .second, .val (.int v6), .val (.int xnf), .val (.long v27), .second, .val (.int v42), .val (.long v53), .second, .val (.ref b43xn), .val (.long v103), .second, .unset, .unset, .unset, .unset, .unset, .unset, .unset, .unset, .unset] [(.int (1 : Int32))])) _
        exact retN X73 hx (t := .boolean) Bd.returns (by simp) (hb hby at_154) hr
      · show own_Q0 Z y1 y2 y3 y4 y5 y6 wI wN wP h0 n0 _ T73.heap _
        rw [eh73]
        exact ⟨rfl, N73⟩
    · obtain ⟨v163, hv163⟩ : ∃ w : Int64, w = ((v53 - (1 : Int64)) * (v42.toInt64)) := ⟨_, rfl⟩
      have pre75 : ∀ t, Steps p.tables e below (T43.setTop (mkF m 165 #[.val (.int y1), .val (.int y2), .val (.int y3), .val (.long y4), .second, .val (.long y5), .second, .val (.long y6), .second, .val (.int v6), .val (.int xnf), .val (.long v27), .second, .val (.int v42), .val (.long v53), .second, .val (.ref b43xn), .val (.long v103), .second, .val (.long v163), .second, .unset, .unset, .unset, .unset, .unset, .unset, .unset] [])) t → Steps p.tables e below (s₁.setTop (entryFrame m #[(.int y1), (.int y2), (.int y3), (.long y4), (.long y5), (.long y6)] maxLocals)) t := by
        intro t k
        rw [hv163] at k
        refine pre67 _ ?_
        show Steps p.tables e below (T43.setTop (mkF m 110 #[.val (.int y1), .val (.int y2), .val (.int y3), .val (.long y4), .second, .val (.long y5), .second, .val (.long y6), .second, .val (.int v6), .val (.int xnf), .val (.long v27), .second, .val (.int v42), .val (.long v53), .second, .val (.ref b43xn), .val (.long v103), .second, .unset, .unset, .unset, .unset, .unset, .unset, .unset, .unset, .unset] [(.int (lcmpW v53 v103))])) _
        refine XS.ifYes X43.here hx rfl (pc0 := 110) (pc' := 155) rfl (hb hby at_110) rfl ((if0 _ _).trans (flt (fun z => hc110 ((lw_gt v53 v103).mp z))).2.2.2) (by decide) (by decide) ?_
        show Steps p.tables e below (T43.setTop (mkF m 155 #[.val (.int y1), .val (.int y2), .val (.int y3), .val (.long y4), .second, .val (.long y5), .second, .val (.long y6), .second, .val (.int v6), .val (.int xnf), .val (.long v27), .second, .val (.int v42), .val (.long v53), .second, .val (.ref b43xn), .val (.long v103), .second, .unset, .unset, .unset, .unset, .unset, .unset, .unset, .unset, .unset] [])) _
        refine XS.lload X43.here hx rfl (hb hby at_155) rfl ?_
        show Steps p.tables e below (T43.setTop (mkF m 157 #[.val (.int y1), .val (.int y2), .val (.int y3), .val (.long y4), .second, .val (.long y5), .second, .val (.long y6), .second, .val (.int v6), .val (.int xnf), .val (.long v27), .second, .val (.int v42), .val (.long v53), .second, .val (.ref b43xn), .val (.long v103), .second, .unset, .unset, .unset, .unset, .unset, .unset, .unset, .unset, .unset] [(.long v53)])) _
        refine XS.lconst X43.here hx rfl (hb hby at_157) ?_
        show Steps p.tables e below (T43.setTop (mkF m 158 #[.val (.int y1), .val (.int y2), .val (.int y3), .val (.long y4), .second, .val (.long y5), .second, .val (.long y6), .second, .val (.int v6), .val (.int xnf), .val (.long v27), .second, .val (.int v42), .val (.long v53), .second, .val (.ref b43xn), .val (.long v103), .second, .unset, .unset, .unset, .unset, .unset, .unset, .unset, .unset, .unset] [(.long (1 : Int64)), (.long v53)])) _
        refine XS.lsub X43.here hx rfl (hb hby at_158) rfl ?_
        show Steps p.tables e below (T43.setTop (mkF m 159 #[.val (.int y1), .val (.int y2), .val (.int y3), .val (.long y4), .second, .val (.long y5), .second, .val (.long y6), .second, .val (.int v6), .val (.int xnf), .val (.long v27), .second, .val (.int v42), .val (.long v53), .second, .val (.ref b43xn), .val (.long v103), .second, .unset, .unset, .unset, .unset, .unset, .unset, .unset, .unset, .unset] [(.long (v53 - (1 : Int64)))])) _
        refine XS.iload X43.here hx rfl (hb hby at_159) rfl ?_
        show Steps p.tables e below (T43.setTop (mkF m 161 #[.val (.int y1), .val (.int y2), .val (.int y3), .val (.long y4), .second, .val (.long y5), .second, .val (.long y6), .second, .val (.int v6), .val (.int xnf), .val (.long v27), .second, .val (.int v42), .val (.long v53), .second, .val (.ref b43xn), .val (.long v103), .second, .unset, .unset, .unset, .unset, .unset, .unset, .unset, .unset, .unset] [(.int v42), (.long (v53 - (1 : Int64)))])) _
        refine XS.i2l X43.here hx rfl (hb hby at_161) rfl ?_
        show Steps p.tables e below (T43.setTop (mkF m 162 #[.val (.int y1), .val (.int y2), .val (.int y3), .val (.long y4), .second, .val (.long y5), .second, .val (.long y6), .second, .val (.int v6), .val (.int xnf), .val (.long v27), .second, .val (.int v42), .val (.long v53), .second, .val (.ref b43xn), .val (.long v103), .second, .unset, .unset, .unset, .unset, .unset, .unset, .unset, .unset, .unset] [(.long (v42.toInt64)), (.long (v53 - (1 : Int64)))])) _
        refine XS.lmul X43.here hx rfl (hb hby at_162) rfl ?_
        show Steps p.tables e below (T43.setTop (mkF m 163 #[.val (.int y1), .val (.int y2), .val (.int y3), .val (.long y4), .second, .val (.long y5), .second, .val (.long y6), .second, .val (.int v6), .val (.int xnf), .val (.long v27), .second, .val (.int v42), .val (.long v53), .second, .val (.ref b43xn), .val (.long v103), .second, .unset, .unset, .unset, .unset, .unset, .unset, .unset, .unset, .unset] [(.long ((v53 - (1 : Int64)) * (v42.toInt64)))])) _
        refine XS.lstore X43.here hx rfl (hb hby at_163) rfl (l' := #[.val (.int y1), .val (.int y2), .val (.int y3), .val (.long y4), .second, .val (.long y5), .second, .val (.long y6), .second, .val (.int v6), .val (.int xnf), .val (.long v27), .second, .val (.int v42), .val (.long v53), .second, .val (.ref b43xn), .val (.long v103), .second, .val (.long ((v53 - (1 : Int64)) * (v42.toInt64))), .second, .unset, .unset, .unset, .unset, .unset, .unset, .unset]) rfl ?_
        exact k
      have pre76 : ∀ t, Steps p.tables e below (T43.setTop (mkF m 170 #[.val (.int y1), .val (.int y2), .val (.int y3), .val (.long y4), .second, .val (.long y5), .second, .val (.long y6), .second, .val (.int v6), .val (.int xnf), .val (.long v27), .second, .val (.int v42), .val (.long v53), .second, .val (.ref b43xn), .val (.long v103), .second, .val (.long v163), .second, .unset, .unset, .unset, .unset, .unset, .unset, .unset] [(.int (lcmpW v53 v103))])) t → Steps p.tables e below (s₁.setTop (entryFrame m #[(.int y1), (.int y2), (.int y3), (.long y4), (.long y5), (.long y6)] maxLocals)) t := by
        intro t k
        refine pre75 _ ?_
        show Steps p.tables e below (T43.setTop (mkF m 165 #[.val (.int y1), .val (.int y2), .val (.int y3), .val (.long y4), .second, .val (.long y5), .second, .val (.long y6), .second, .val (.int v6), .val (.int xnf), .val (.long v27), .second, .val (.int v42), .val (.long v53), .second, .val (.ref b43xn), .val (.long v103), .second, .val (.long v163), .second, .unset, .unset, .unset, .unset, .unset, .unset, .unset] [])) _
        refine XS.lload X43.here hx rfl (hb hby at_165) rfl ?_
        show Steps p.tables e below (T43.setTop (mkF m 167 #[.val (.int y1), .val (.int y2), .val (.int y3), .val (.long y4), .second, .val (.long y5), .second, .val (.long y6), .second, .val (.int v6), .val (.int xnf), .val (.long v27), .second, .val (.int v42), .val (.long v53), .second, .val (.ref b43xn), .val (.long v103), .second, .val (.long v163), .second, .unset, .unset, .unset, .unset, .unset, .unset, .unset] [(.long v53)])) _
        refine XS.lload X43.here hx rfl (hb hby at_167) rfl ?_
        show Steps p.tables e below (T43.setTop (mkF m 169 #[.val (.int y1), .val (.int y2), .val (.int y3), .val (.long y4), .second, .val (.long y5), .second, .val (.long y6), .second, .val (.int v6), .val (.int xnf), .val (.long v27), .second, .val (.int v42), .val (.long v53), .second, .val (.ref b43xn), .val (.long v103), .second, .val (.long v163), .second, .unset, .unset, .unset, .unset, .unset, .unset, .unset] [(.long v103), (.long v53)])) _
        refine XS.lcmp X43.here hx rfl (hb hby at_169) rfl ?_
        exact k
      obtain ⟨xtk, hxtk⟩ : ∃ w : Int64, w = (if v53 < v103 then (v42.toInt64) else (v27 - v163)) := ⟨_, rfl⟩
      have pre77 : ∀ t, Steps p.tables e below (T43.setTop (mkF m 184 #[.val (.int y1), .val (.int y2), .val (.int y3), .val (.long y4), .second, .val (.long y5), .second, .val (.long y6), .second, .val (.int v6), .val (.int xnf), .val (.long v27), .second, .val (.int v42), .val (.long v53), .second, .val (.ref b43xn), .val (.long v103), .second, .val (.long v163), .second, .unset, .unset, .unset, .unset, .unset, .unset, .unset] [(.long xtk)])) t → Steps p.tables e below (s₁.setTop (entryFrame m #[(.int y1), (.int y2), (.int y3), (.long y4), (.long y5), (.long y6)] maxLocals)) t := by
        intro t k
        refine pre76 _ ?_
        by_cases hm170 : v53 < v103
        · have hq := hxtk
          rw [if_pos hm170] at hq
          rw [hq] at k
          show Steps p.tables e below (T43.setTop (mkF m 170 #[.val (.int y1), .val (.int y2), .val (.int y3), .val (.long y4), .second, .val (.long y5), .second, .val (.long y6), .second, .val (.int v6), .val (.int xnf), .val (.long v27), .second, .val (.int v42), .val (.long v53), .second, .val (.ref b43xn), .val (.long v103), .second, .val (.long v163), .second, .unset, .unset, .unset, .unset, .unset, .unset, .unset] [(.int (lcmpW v53 v103))])) _
          refine XS.ifNo X43.here hx rfl (hb hby at_170) rfl ((if0 _ _).trans (tlt ((lw_lt v53 v103).mpr hm170)).2.1) ?_
          show Steps p.tables e below (T43.setTop (mkF m 173 #[.val (.int y1), .val (.int y2), .val (.int y3), .val (.long y4), .second, .val (.long y5), .second, .val (.long y6), .second, .val (.int v6), .val (.int xnf), .val (.long v27), .second, .val (.int v42), .val (.long v53), .second, .val (.ref b43xn), .val (.long v103), .second, .val (.long v163), .second, .unset, .unset, .unset, .unset, .unset, .unset, .unset] [])) _
          refine XS.iload X43.here hx rfl (hb hby at_173) rfl ?_
          show Steps p.tables e below (T43.setTop (mkF m 175 #[.val (.int y1), .val (.int y2), .val (.int y3), .val (.long y4), .second, .val (.long y5), .second, .val (.long y6), .second, .val (.int v6), .val (.int xnf), .val (.long v27), .second, .val (.int v42), .val (.long v53), .second, .val (.ref b43xn), .val (.long v103), .second, .val (.long v163), .second, .unset, .unset, .unset, .unset, .unset, .unset, .unset] [(.int v42)])) _
          refine XS.i2l X43.here hx rfl (hb hby at_175) rfl ?_
          show Steps p.tables e below (T43.setTop (mkF m 176 #[.val (.int y1), .val (.int y2), .val (.int y3), .val (.long y4), .second, .val (.long y5), .second, .val (.long y6), .second, .val (.int v6), .val (.int xnf), .val (.long v27), .second, .val (.int v42), .val (.long v53), .second, .val (.ref b43xn), .val (.long v103), .second, .val (.long v163), .second, .unset, .unset, .unset, .unset, .unset, .unset, .unset] [(.long (v42.toInt64))])) _
          refine XS.goto X43.here hx rfl (pc0 := 176) (pc' := 184) rfl (hb hby at_176) (by decide) (by decide) ?_
          exact k
        · have hq := hxtk
          rw [if_neg hm170] at hq
          rw [hq] at k
          show Steps p.tables e below (T43.setTop (mkF m 170 #[.val (.int y1), .val (.int y2), .val (.int y3), .val (.long y4), .second, .val (.long y5), .second, .val (.long y6), .second, .val (.int v6), .val (.int xnf), .val (.long v27), .second, .val (.int v42), .val (.long v53), .second, .val (.ref b43xn), .val (.long v103), .second, .val (.long v163), .second, .unset, .unset, .unset, .unset, .unset, .unset, .unset] [(.int (lcmpW v53 v103))])) _
          refine XS.ifYes X43.here hx rfl (pc0 := 170) (pc' := 179) rfl (hb hby at_170) rfl ((if0 _ _).trans (flt (fun z => hm170 ((lw_lt v53 v103).mp z))).2.1) (by decide) (by decide) ?_
          show Steps p.tables e below (T43.setTop (mkF m 179 #[.val (.int y1), .val (.int y2), .val (.int y3), .val (.long y4), .second, .val (.long y5), .second, .val (.long y6), .second, .val (.int v6), .val (.int xnf), .val (.long v27), .second, .val (.int v42), .val (.long v53), .second, .val (.ref b43xn), .val (.long v103), .second, .val (.long v163), .second, .unset, .unset, .unset, .unset, .unset, .unset, .unset] [])) _
          refine XS.lload X43.here hx rfl (hb hby at_179) rfl ?_
          show Steps p.tables e below (T43.setTop (mkF m 181 #[.val (.int y1), .val (.int y2), .val (.int y3), .val (.long y4), .second, .val (.long y5), .second, .val (.long y6), .second, .val (.int v6), .val (.int xnf), .val (.long v27), .second, .val (.int v42), .val (.long v53), .second, .val (.ref b43xn), .val (.long v103), .second, .val (.long v163), .second, .unset, .unset, .unset, .unset, .unset, .unset, .unset] [(.long v27)])) _
          refine XS.lload X43.here hx rfl (hb hby at_181) rfl ?_
          show Steps p.tables e below (T43.setTop (mkF m 183 #[.val (.int y1), .val (.int y2), .val (.int y3), .val (.long y4), .second, .val (.long y5), .second, .val (.long y6), .second, .val (.int v6), .val (.int xnf), .val (.long v27), .second, .val (.int v42), .val (.long v53), .second, .val (.ref b43xn), .val (.long v103), .second, .val (.long v163), .second, .unset, .unset, .unset, .unset, .unset, .unset, .unset] [(.long v163), (.long v27)])) _
          refine XS.lsub X43.here hx rfl (hb hby at_183) rfl ?_
          exact k
      obtain ⟨v194, hv194⟩ : ∃ w : Int64, w = ((v27 - v163) - xtk) := ⟨_, rfl⟩
      have pre78 : ∀ t, Steps p.tables e below (T43.setTop (mkF m 196 #[.val (.int y1), .val (.int y2), .val (.int y3), .val (.long y4), .second, .val (.long y5), .second, .val (.long y6), .second, .val (.int v6), .val (.int xnf), .val (.long v27), .second, .val (.int v42), .val (.long v53), .second, .val (.ref b43xn), .val (.long v103), .second, .val (.long v163), .second, .val (.long xtk), .second, .val (.long v194), .second, .unset, .unset, .unset] [])) t → Steps p.tables e below (s₁.setTop (entryFrame m #[(.int y1), (.int y2), (.int y3), (.long y4), (.long y5), (.long y6)] maxLocals)) t := by
        intro t k
        rw [hv194] at k
        refine pre77 _ ?_
        show Steps p.tables e below (T43.setTop (mkF m 184 #[.val (.int y1), .val (.int y2), .val (.int y3), .val (.long y4), .second, .val (.long y5), .second, .val (.long y6), .second, .val (.int v6), .val (.int xnf), .val (.long v27), .second, .val (.int v42), .val (.long v53), .second, .val (.ref b43xn), .val (.long v103), .second, .val (.long v163), .second, .unset, .unset, .unset, .unset, .unset, .unset, .unset] [(.long xtk)])) _
        refine XS.lstore X43.here hx rfl (hb hby at_184) rfl (l' := #[.val (.int y1), .val (.int y2), .val (.int y3), .val (.long y4), .second, .val (.long y5), .second, .val (.long y6), .second, .val (.int v6), .val (.int xnf), .val (.long v27), .second, .val (.int v42), .val (.long v53), .second, .val (.ref b43xn), .val (.long v103), .second, .val (.long v163), .second, .val (.long xtk), .second, .unset, .unset, .unset, .unset, .unset]) rfl ?_
        show Steps p.tables e below (T43.setTop (mkF m 186 #[.val (.int y1), .val (.int y2), .val (.int y3), .val (.long y4), .second, .val (.long y5), .second, .val (.long y6), .second, .val (.int v6), .val (.int xnf), .val (.long v27), .second, .val (.int v42), .val (.long v53), .second, .val (.ref b43xn), .val (.long v103), .second, .val (.long v163), .second, .val (.long xtk), .second, .unset, .unset, .unset, .unset, .unset] [])) _
        refine XS.lload X43.here hx rfl (hb hby at_186) rfl ?_
        show Steps p.tables e below (T43.setTop (mkF m 188 #[.val (.int y1), .val (.int y2), .val (.int y3), .val (.long y4), .second, .val (.long y5), .second, .val (.long y6), .second, .val (.int v6), .val (.int xnf), .val (.long v27), .second, .val (.int v42), .val (.long v53), .second, .val (.ref b43xn), .val (.long v103), .second, .val (.long v163), .second, .val (.long xtk), .second, .unset, .unset, .unset, .unset, .unset] [(.long v27)])) _
        refine XS.lload X43.here hx rfl (hb hby at_188) rfl ?_
        show Steps p.tables e below (T43.setTop (mkF m 190 #[.val (.int y1), .val (.int y2), .val (.int y3), .val (.long y4), .second, .val (.long y5), .second, .val (.long y6), .second, .val (.int v6), .val (.int xnf), .val (.long v27), .second, .val (.int v42), .val (.long v53), .second, .val (.ref b43xn), .val (.long v103), .second, .val (.long v163), .second, .val (.long xtk), .second, .unset, .unset, .unset, .unset, .unset] [(.long v163), (.long v27)])) _
        refine XS.lsub X43.here hx rfl (hb hby at_190) rfl ?_
        show Steps p.tables e below (T43.setTop (mkF m 191 #[.val (.int y1), .val (.int y2), .val (.int y3), .val (.long y4), .second, .val (.long y5), .second, .val (.long y6), .second, .val (.int v6), .val (.int xnf), .val (.long v27), .second, .val (.int v42), .val (.long v53), .second, .val (.ref b43xn), .val (.long v103), .second, .val (.long v163), .second, .val (.long xtk), .second, .unset, .unset, .unset, .unset, .unset] [(.long (v27 - v163))])) _
        refine XS.lload X43.here hx rfl (hb hby at_191) rfl ?_
        show Steps p.tables e below (T43.setTop (mkF m 193 #[.val (.int y1), .val (.int y2), .val (.int y3), .val (.long y4), .second, .val (.long y5), .second, .val (.long y6), .second, .val (.int v6), .val (.int xnf), .val (.long v27), .second, .val (.int v42), .val (.long v53), .second, .val (.ref b43xn), .val (.long v103), .second, .val (.long v163), .second, .val (.long xtk), .second, .unset, .unset, .unset, .unset, .unset] [(.long xtk), (.long (v27 - v163))])) _
        refine XS.lsub X43.here hx rfl (hb hby at_193) rfl ?_
        show Steps p.tables e below (T43.setTop (mkF m 194 #[.val (.int y1), .val (.int y2), .val (.int y3), .val (.long y4), .second, .val (.long y5), .second, .val (.long y6), .second, .val (.int v6), .val (.int xnf), .val (.long v27), .second, .val (.int v42), .val (.long v53), .second, .val (.ref b43xn), .val (.long v103), .second, .val (.long v163), .second, .val (.long xtk), .second, .unset, .unset, .unset, .unset, .unset] [(.long ((v27 - v163) - xtk))])) _
        refine XS.lstore X43.here hx rfl (hb hby at_194) rfl (l' := #[.val (.int y1), .val (.int y2), .val (.int y3), .val (.long y4), .second, .val (.long y5), .second, .val (.long y6), .second, .val (.int v6), .val (.int xnf), .val (.long v27), .second, .val (.int v42), .val (.long v53), .second, .val (.ref b43xn), .val (.long v103), .second, .val (.long v163), .second, .val (.long xtk), .second, .val (.long ((v27 - v163) - xtk)), .second, .unset, .unset, .unset]) rfl ?_
        exact k
      have pre79 : ∀ t, Steps p.tables e below (T43.setTop (mkF m 201 #[.val (.int y1), .val (.int y2), .val (.int y3), .val (.long y4), .second, .val (.long y5), .second, .val (.long y6), .second, .val (.int v6), .val (.int xnf), .val (.long v27), .second, .val (.int v42), .val (.long v53), .second, .val (.ref b43xn), .val (.long v103), .second, .val (.long v163), .second, .val (.long xtk), .second, .val (.long v194), .second, .unset, .unset, .unset] [(.int (lcmpW v194 v163))])) t → Steps p.tables e below (s₁.setTop (entryFrame m #[(.int y1), (.int y2), (.int y3), (.long y4), (.long y5), (.long y6)] maxLocals)) t := by
        intro t k
        refine pre78 _ ?_
        show Steps p.tables e below (T43.setTop (mkF m 196 #[.val (.int y1), .val (.int y2), .val (.int y3), .val (.long y4), .second, .val (.long y5), .second, .val (.long y6), .second, .val (.int v6), .val (.int xnf), .val (.long v27), .second, .val (.int v42), .val (.long v53), .second, .val (.ref b43xn), .val (.long v103), .second, .val (.long v163), .second, .val (.long xtk), .second, .val (.long v194), .second, .unset, .unset, .unset] [])) _
        refine XS.lload X43.here hx rfl (hb hby at_196) rfl ?_
        show Steps p.tables e below (T43.setTop (mkF m 198 #[.val (.int y1), .val (.int y2), .val (.int y3), .val (.long y4), .second, .val (.long y5), .second, .val (.long y6), .second, .val (.int v6), .val (.int xnf), .val (.long v27), .second, .val (.int v42), .val (.long v53), .second, .val (.ref b43xn), .val (.long v103), .second, .val (.long v163), .second, .val (.long xtk), .second, .val (.long v194), .second, .unset, .unset, .unset] [(.long v194)])) _
        refine XS.lload X43.here hx rfl (hb hby at_198) rfl ?_
        show Steps p.tables e below (T43.setTop (mkF m 200 #[.val (.int y1), .val (.int y2), .val (.int y3), .val (.long y4), .second, .val (.long y5), .second, .val (.long y6), .second, .val (.int v6), .val (.int xnf), .val (.long v27), .second, .val (.int v42), .val (.long v53), .second, .val (.ref b43xn), .val (.long v103), .second, .val (.long v163), .second, .val (.long xtk), .second, .val (.long v194), .second, .unset, .unset, .unset] [(.long v163), (.long v194)])) _
        refine XS.lcmp X43.here hx rfl (hb hby at_200) rfl ?_
        exact k
      obtain ⟨xbk, hxbk⟩ : ∃ w : Int32, w = (if v194 < v163 then (1 : Int32) else (0 : Int32)) := ⟨_, rfl⟩
      have pre80 : ∀ t, Steps p.tables e below (T43.setTop (mkF m 209 #[.val (.int y1), .val (.int y2), .val (.int y3), .val (.long y4), .second, .val (.long y5), .second, .val (.long y6), .second, .val (.int v6), .val (.int xnf), .val (.long v27), .second, .val (.int v42), .val (.long v53), .second, .val (.ref b43xn), .val (.long v103), .second, .val (.long v163), .second, .val (.long xtk), .second, .val (.long v194), .second, .unset, .unset, .unset] [(.int xbk)])) t → Steps p.tables e below (s₁.setTop (entryFrame m #[(.int y1), (.int y2), (.int y3), (.long y4), (.long y5), (.long y6)] maxLocals)) t := by
        intro t k
        refine pre79 _ ?_
        by_cases hm201 : v194 < v163
        · have hq := hxbk
          rw [if_pos hm201] at hq
          rw [hq] at k
          show Steps p.tables e below (T43.setTop (mkF m 201 #[.val (.int y1), .val (.int y2), .val (.int y3), .val (.long y4), .second, .val (.long y5), .second, .val (.long y6), .second, .val (.int v6), .val (.int xnf), .val (.long v27), .second, .val (.int v42), .val (.long v53), .second, .val (.ref b43xn), .val (.long v103), .second, .val (.long v163), .second, .val (.long xtk), .second, .val (.long v194), .second, .unset, .unset, .unset] [(.int (lcmpW v194 v163))])) _
          refine XS.ifNo X43.here hx rfl (hb hby at_201) rfl ((if0 _ _).trans (tlt ((lw_lt v194 v163).mpr hm201)).2.1) ?_
          show Steps p.tables e below (T43.setTop (mkF m 204 #[.val (.int y1), .val (.int y2), .val (.int y3), .val (.long y4), .second, .val (.long y5), .second, .val (.long y6), .second, .val (.int v6), .val (.int xnf), .val (.long v27), .second, .val (.int v42), .val (.long v53), .second, .val (.ref b43xn), .val (.long v103), .second, .val (.long v163), .second, .val (.long xtk), .second, .val (.long v194), .second, .unset, .unset, .unset] [])) _
          refine XS.iconst X43.here hx rfl (hb hby at_204) ?_
          show Steps p.tables e below (T43.setTop (mkF m 205 #[.val (.int y1), .val (.int y2), .val (.int y3), .val (.long y4), .second, .val (.long y5), .second, .val (.long y6), .second, .val (.int v6), .val (.int xnf), .val (.long v27), .second, .val (.int v42), .val (.long v53), .second, .val (.ref b43xn), .val (.long v103), .second, .val (.long v163), .second, .val (.long xtk), .second, .val (.long v194), .second, .unset, .unset, .unset] [(.int (1 : Int32))])) _
          refine XS.goto X43.here hx rfl (pc0 := 205) (pc' := 209) rfl (hb hby at_205) (by decide) (by decide) ?_
          exact k
        · have hq := hxbk
          rw [if_neg hm201] at hq
          rw [hq] at k
          show Steps p.tables e below (T43.setTop (mkF m 201 #[.val (.int y1), .val (.int y2), .val (.int y3), .val (.long y4), .second, .val (.long y5), .second, .val (.long y6), .second, .val (.int v6), .val (.int xnf), .val (.long v27), .second, .val (.int v42), .val (.long v53), .second, .val (.ref b43xn), .val (.long v103), .second, .val (.long v163), .second, .val (.long xtk), .second, .val (.long v194), .second, .unset, .unset, .unset] [(.int (lcmpW v194 v163))])) _
          refine XS.ifYes X43.here hx rfl (pc0 := 201) (pc' := 208) rfl (hb hby at_201) rfl ((if0 _ _).trans (flt (fun z => hm201 ((lw_lt v194 v163).mp z))).2.1) (by decide) (by decide) ?_
          show Steps p.tables e below (T43.setTop (mkF m 208 #[.val (.int y1), .val (.int y2), .val (.int y3), .val (.long y4), .second, .val (.long y5), .second, .val (.long y6), .second, .val (.int v6), .val (.int xnf), .val (.long v27), .second, .val (.int v42), .val (.long v53), .second, .val (.ref b43xn), .val (.long v103), .second, .val (.long v163), .second, .val (.long xtk), .second, .val (.long v194), .second, .unset, .unset, .unset] [])) _
          refine XS.iconst X43.here hx rfl (hb hby at_208) ?_
          exact k
      have pre81 : ∀ t, Steps p.tables e below (T43.setTop (mkF m 213 #[.val (.int y1), .val (.int y2), .val (.int y3), .val (.long y4), .second, .val (.long y5), .second, .val (.long y6), .second, .val (.int v6), .val (.int xnf), .val (.long v27), .second, .val (.int v42), .val (.long v53), .second, .val (.ref b43xn), .val (.long v103), .second, .val (.long v163), .second, .val (.long xtk), .second, .val (.long v194), .second, .val (.int xbk), .unset, .unset] [(.int xbk)])) t → Steps p.tables e below (s₁.setTop (entryFrame m #[(.int y1), (.int y2), (.int y3), (.long y4), (.long y5), (.long y6)] maxLocals)) t := by
        intro t k
        refine pre80 _ ?_
        show Steps p.tables e below (T43.setTop (mkF m 209 #[.val (.int y1), .val (.int y2), .val (.int y3), .val (.long y4), .second, .val (.long y5), .second, .val (.long y6), .second, .val (.int v6), .val (.int xnf), .val (.long v27), .second, .val (.int v42), .val (.long v53), .second, .val (.ref b43xn), .val (.long v103), .second, .val (.long v163), .second, .val (.long xtk), .second, .val (.long v194), .second, .unset, .unset, .unset] [(.int xbk)])) _
        refine XS.istore X43.here hx rfl (hb hby at_209) rfl (l' := #[.val (.int y1), .val (.int y2), .val (.int y3), .val (.long y4), .second, .val (.long y5), .second, .val (.long y6), .second, .val (.int v6), .val (.int xnf), .val (.long v27), .second, .val (.int v42), .val (.long v53), .second, .val (.ref b43xn), .val (.long v103), .second, .val (.long v163), .second, .val (.long xtk), .second, .val (.long v194), .second, .val (.int xbk), .unset, .unset]) rfl ?_
        show Steps p.tables e below (T43.setTop (mkF m 211 #[.val (.int y1), .val (.int y2), .val (.int y3), .val (.long y4), .second, .val (.long y5), .second, .val (.long y6), .second, .val (.int v6), .val (.int xnf), .val (.long v27), .second, .val (.int v42), .val (.long v53), .second, .val (.ref b43xn), .val (.long v103), .second, .val (.long v163), .second, .val (.long xtk), .second, .val (.long v194), .second, .val (.int xbk), .unset, .unset] [])) _
        refine XS.iload X43.here hx rfl (hb hby at_211) rfl ?_
        exact k
      obtain ⟨xsk, hxsk⟩ : ∃ w : Int64, w = (if xbk = (0 : Int32) then v163 else v194) := ⟨_, rfl⟩
      have pre82 : ∀ t, Steps p.tables e below (T43.setTop (mkF m 223 #[.val (.int y1), .val (.int y2), .val (.int y3), .val (.long y4), .second, .val (.long y5), .second, .val (.long y6), .second, .val (.int v6), .val (.int xnf), .val (.long v27), .second, .val (.int v42), .val (.long v53), .second, .val (.ref b43xn), .val (.long v103), .second, .val (.long v163), .second, .val (.long xtk), .second, .val (.long v194), .second, .val (.int xbk), .unset, .unset] [(.long xsk)])) t → Steps p.tables e below (s₁.setTop (entryFrame m #[(.int y1), (.int y2), (.int y3), (.long y4), (.long y5), (.long y6)] maxLocals)) t := by
        intro t k
        refine pre81 _ ?_
        by_cases hm213 : xbk = (0 : Int32)
        · have hq := hxsk
          rw [if_pos hm213] at hq
          rw [hq] at k
          show Steps p.tables e below (T43.setTop (mkF m 213 #[.val (.int y1), .val (.int y2), .val (.int y3), .val (.long y4), .second, .val (.long y5), .second, .val (.long y6), .second, .val (.int v6), .val (.int xnf), .val (.long v27), .second, .val (.int v42), .val (.long v53), .second, .val (.ref b43xn), .val (.long v103), .second, .val (.long v163), .second, .val (.long xtk), .second, .val (.long v194), .second, .val (.int xbk), .unset, .unset] [(.int xbk)])) _
          refine XS.ifYes X43.here hx rfl (pc0 := 213) (pc' := 221) rfl (hb hby at_213) rfl ((if0 _ _).trans (teq hm213).1) (by decide) (by decide) ?_
          show Steps p.tables e below (T43.setTop (mkF m 221 #[.val (.int y1), .val (.int y2), .val (.int y3), .val (.long y4), .second, .val (.long y5), .second, .val (.long y6), .second, .val (.int v6), .val (.int xnf), .val (.long v27), .second, .val (.int v42), .val (.long v53), .second, .val (.ref b43xn), .val (.long v103), .second, .val (.long v163), .second, .val (.long xtk), .second, .val (.long v194), .second, .val (.int xbk), .unset, .unset] [])) _
          refine XS.lload X43.here hx rfl (hb hby at_221) rfl ?_
          exact k
        · have hq := hxsk
          rw [if_neg hm213] at hq
          rw [hq] at k
          show Steps p.tables e below (T43.setTop (mkF m 213 #[.val (.int y1), .val (.int y2), .val (.int y3), .val (.long y4), .second, .val (.long y5), .second, .val (.long y6), .second, .val (.int v6), .val (.int xnf), .val (.long v27), .second, .val (.int v42), .val (.long v53), .second, .val (.ref b43xn), .val (.long v103), .second, .val (.long v163), .second, .val (.long xtk), .second, .val (.long v194), .second, .val (.int xbk), .unset, .unset] [(.int xbk)])) _
          refine XS.ifNo X43.here hx rfl (hb hby at_213) rfl ((if0 _ _).trans (feq hm213).1) ?_
          show Steps p.tables e below (T43.setTop (mkF m 216 #[.val (.int y1), .val (.int y2), .val (.int y3), .val (.long y4), .second, .val (.long y5), .second, .val (.long y6), .second, .val (.int v6), .val (.int xnf), .val (.long v27), .second, .val (.int v42), .val (.long v53), .second, .val (.ref b43xn), .val (.long v103), .second, .val (.long v163), .second, .val (.long xtk), .second, .val (.long v194), .second, .val (.int xbk), .unset, .unset] [])) _
          refine XS.lload X43.here hx rfl (hb hby at_216) rfl ?_
          show Steps p.tables e below (T43.setTop (mkF m 218 #[.val (.int y1), .val (.int y2), .val (.int y3), .val (.long y4), .second, .val (.long y5), .second, .val (.long y6), .second, .val (.int v6), .val (.int xnf), .val (.long v27), .second, .val (.int v42), .val (.long v53), .second, .val (.ref b43xn), .val (.long v103), .second, .val (.long v163), .second, .val (.long xtk), .second, .val (.long v194), .second, .val (.int xbk), .unset, .unset] [(.long v194)])) _
          refine XS.goto X43.here hx rfl (pc0 := 218) (pc' := 223) rfl (hb hby at_218) (by decide) (by decide) ?_
          exact k
      obtain ⟨L21, L22, L23, L24⟩ := own_L2 hs1 hi1 ht0 hxr hv103 hc110
      rw [← hv163] at L21 L22 L23 L24
      rw [← hxtk] at L23 L24
      have f2 : own_st v53 v42 < v27 := by rw [L21]; exact L22
      have f3 : own_tk v53 v42 v27 = (xtk.toInt32) := by unfold own_tk; rw [if_pos f2, L21, L23]
      have f4 : own_af v53 v42 v27 = v194 := by unfold own_af; rw [L21, f3, L24, hv194]
      have f5 : (nar .boolean (own_bw v53 v42 v27)) = xbk := by unfold own_bw; rw [if_pos f2, f4, L21, hxbk]; split <;> rfl
      have f6 : (own_sk v53 v42 v27) = xsk := by unfold own_sk; rw [if_pos f2, f4, L21, hxsk, hxbk]; by_cases q : v194 < v163 <;> simp [q]
      obtain ⟨cq83, kq83, q83a, q83b, q83c⟩ := isOf hZ rfl F44
      obtain ⟨_, _, ⟨T83, L83, k83, n83⟩, -, X83, ⟨Lc83, hQ83, l83, y83, z83⟩, st83⟩ := X43.virtualBack hx (y := (⟨"com/example/tracebook/tracebook/model/Paging$Walk", "backward", "()Z"⟩ : MethodName)) (z := (⟨"com/example/tracebook/tracebook/model/Paging$Walk", "backward", "()Z"⟩ : MethodName)) hown (mvT hZ (hw _ (List.mem_of_getElem? (i := 66) rfl))) (mvT hZ (hw _ (List.mem_of_getElem? (i := 67) rfl))) (notFace_of_selects (args := #[]) (mvT hZ (hw _ (List.mem_of_getElem? (i := 69) rfl)))) (mvT hZ (hw _ (List.mem_of_getElem? (i := 69) rfl))) (mvT hZ (hw _ (List.mem_of_getElem? (i := 68) rfl))) (by decide) (backOf (W := 0) (own_rm9 l Z a0 hw [] b43xn (own_bw v53 v42 v27) T43.heap n0 Z43 F45) hZ (hw _ (List.mem_of_getElem? (i := 70) rfl)) (hw _ (List.mem_of_getElem? (i := 53) rfl)) (by decide) (by decide)) q83a q83c (g := (mkF m 227 #[.val (.int y1), .val (.int y2), .val (.int y3), .val (.long y4), .second, .val (.long y5), .second, .val (.long y6), .second, .val (.int v6), .val (.int xnf), .val (.long v27), .second, .val (.int v42), .val (.long v53), .second, .val (.ref b43xn), .val (.long v103), .second, .val (.long v163), .second, .val (.long xtk), .second, .val (.long v194), .second, .val (.int xbk), .val (.long xsk), .second] [(.ref b43xn)])) rfl (by rw [hml]; rfl) (Steps.refl _) (argsL := []) (rest := []) (lenOf own_pd7 rfl) rfl (by show 2 * 0 + _ ≤ _; exact Nat.le_of_eq rfl) (hb hby at_227) (fun _ _ => ⟨rfl, rfl, (by decide : 2 + 0 ≤ _), (by decide : 9 + 0 ≤ _)⟩)
      dsimp only [Pt.U, Pt.locs, Pt.cells, Pt.slots] at X83 l83 y83 z83 st83 hQ83
      subst l83 y83 z83
      obtain ⟨rfl, N83q, eh83⟩ := hQ83
      have N83 := Fr.app N43 N83q
      obtain ⟨cq84, kq84, q84a, q84b, q84c⟩ := isOf hZ eh83 F44
      obtain ⟨_, _, ⟨T84, L84, k84, n84⟩, -, X84, ⟨Lc84, hQ84, l84, y84, z84⟩, st84⟩ := X83.virtualBack hx (y := (⟨"com/example/tracebook/tracebook/model/Paging$Walk", "from", "()J"⟩ : MethodName)) (z := (⟨"com/example/tracebook/tracebook/model/Paging$Walk", "from", "()J"⟩ : MethodName)) hown (mvT hZ (hw _ (List.mem_of_getElem? (i := 71) rfl))) (mvT hZ (hw _ (List.mem_of_getElem? (i := 72) rfl))) (notFace_of_selects (args := #[]) (mvT hZ (hw _ (List.mem_of_getElem? (i := 74) rfl)))) (mvT hZ (hw _ (List.mem_of_getElem? (i := 74) rfl))) (mvT hZ (hw _ (List.mem_of_getElem? (i := 73) rfl))) (by decide) (backOf (W := 0) (own_rm10 l Z a0 hw [] b43xn (0 : Int64) T43.heap n0 Z43 F46) hZ (hw _ (List.mem_of_getElem? (i := 75) rfl)) (hw _ (List.mem_of_getElem? (i := 53) rfl)) (by decide) (by decide)) q84a q84c (g := (mkF m 237 #[.val (.int y1), .val (.int y2), .val (.int y3), .val (.long y4), .second, .val (.long y5), .second, .val (.long y6), .second, .val (.int v6), .val (.int xnf), .val (.long v27), .second, .val (.int v42), .val (.long v53), .second, .val (.ref b43xn), .val (.long v103), .second, .val (.long v163), .second, .val (.long xtk), .second, .val (.long v194), .second, .val (.int xbk), .val (.long xsk), .second] [(.ref b43xn)])) rfl (by rw [hml]; rfl) (Steps.refl _) (argsL := []) (rest := []) (lenOf own_pd8 rfl) rfl (by show 2 * 0 + _ ≤ _; exact Nat.le_of_eq rfl) (hb hby at_237) (fun _ _ => ⟨rfl, eh83, (by decide : 2 + 0 ≤ _), (by decide : 9 + 0 ≤ _)⟩)
      dsimp only [Pt.U, Pt.locs, Pt.cells, Pt.slots] at X84 l84 y84 z84 st84 hQ84
      subst l84 y84 z84
      obtain ⟨rfl, N84q, eh84⟩ := hQ84
      have N84 := Fr.app N83 N84q
      obtain ⟨cq85, kq85, q85a, q85b, q85c⟩ := isOf hZ eh84 F44
      obtain ⟨_, _, ⟨T85, L85, k85, n85⟩, -, X85, ⟨Lc85, hQ85, l85, y85, z85⟩, st85⟩ := X84.virtualBack hx (y := (⟨"com/example/tracebook/tracebook/model/Paging$Walk", "skip", "()J"⟩ : MethodName)) (z := (⟨"com/example/tracebook/tracebook/model/Paging$Walk", "skip", "()J"⟩ : MethodName)) hown (mvT hZ (hw _ (List.mem_of_getElem? (i := 76) rfl))) (mvT hZ (hw _ (List.mem_of_getElem? (i := 77) rfl))) (notFace_of_selects (args := #[]) (mvT hZ (hw _ (List.mem_of_getElem? (i := 79) rfl)))) (mvT hZ (hw _ (List.mem_of_getElem? (i := 79) rfl))) (mvT hZ (hw _ (List.mem_of_getElem? (i := 78) rfl))) (by decide) (backOf (W := 0) (own_rm11 l Z a0 hw [] b43xn (own_sk v53 v42 v27) T43.heap n0 Z43 F47) hZ (hw _ (List.mem_of_getElem? (i := 80) rfl)) (hw _ (List.mem_of_getElem? (i := 53) rfl)) (by decide) (by decide)) q85a q85c (g := (mkF m 247 #[.val (.int y1), .val (.int y2), .val (.int y3), .val (.long y4), .second, .val (.long y5), .second, .val (.long y6), .second, .val (.int v6), .val (.int xnf), .val (.long v27), .second, .val (.int v42), .val (.long v53), .second, .val (.ref b43xn), .val (.long v103), .second, .val (.long v163), .second, .val (.long xtk), .second, .val (.long v194), .second, .val (.int xbk), .val (.long xsk), .second] [(.ref b43xn)])) rfl (by rw [hml]; rfl) (Steps.refl _) (argsL := []) (rest := []) (lenOf own_pd8 rfl) rfl (by show 2 * 0 + _ ≤ _; exact Nat.le_of_eq rfl) (hb hby at_247) (fun _ _ => ⟨rfl, eh84, (by decide : 2 + 0 ≤ _), (by decide : 9 + 0 ≤ _)⟩)
      dsimp only [Pt.U, Pt.locs, Pt.cells, Pt.slots] at X85 l85 y85 z85 st85 hQ85
      subst l85 y85 z85
      obtain ⟨rfl, N85q, eh85⟩ := hQ85
      have N85 := Fr.app N84 N85q
      obtain ⟨cq86, kq86, q86a, q86b, q86c⟩ := isOf hZ eh85 F44
      obtain ⟨_, _, ⟨T86, L86, k86, n86⟩, -, X86, ⟨Lc86, hQ86, l86, y86, z86⟩, st86⟩ := X85.virtualBack hx (y := (⟨"com/example/tracebook/tracebook/model/Paging$Walk", "take", "()I"⟩ : MethodName)) (z := (⟨"com/example/tracebook/tracebook/model/Paging$Walk", "take", "()I"⟩ : MethodName)) hown (mvT hZ (hw _ (List.mem_of_getElem? (i := 81) rfl))) (mvT hZ (hw _ (List.mem_of_getElem? (i := 82) rfl))) (notFace_of_selects (args := #[]) (mvT hZ (hw _ (List.mem_of_getElem? (i := 84) rfl)))) (mvT hZ (hw _ (List.mem_of_getElem? (i := 84) rfl))) (mvT hZ (hw _ (List.mem_of_getElem? (i := 83) rfl))) (by decide) (backOf (W := 0) (own_rm12 l Z a0 hw [] b43xn (own_tk v53 v42 v27) T43.heap n0 Z43 F48) hZ (hw _ (List.mem_of_getElem? (i := 85) rfl)) (hw _ (List.mem_of_getElem? (i := 53) rfl)) (by decide) (by decide)) q86a q86c (g := (mkF m 258 #[.val (.int y1), .val (.int y2), .val (.int y3), .val (.long y4), .second, .val (.long y5), .second, .val (.long y6), .second, .val (.int v6), .val (.int xnf), .val (.long v27), .second, .val (.int v42), .val (.long v53), .second, .val (.ref b43xn), .val (.long v103), .second, .val (.long v163), .second, .val (.long xtk), .second, .val (.long v194), .second, .val (.int xbk), .val (.long xsk), .second] [(.ref b43xn)])) rfl (by rw [hml]; rfl) (Steps.refl _) (argsL := []) (rest := []) (lenOf own_pd1 rfl) rfl (by show 2 * 0 + _ ≤ _; exact Nat.le_of_eq rfl) (hb hby at_258) (fun _ _ => ⟨rfl, eh85, (by decide : 2 + 0 ≤ _), (by decide : 9 + 0 ≤ _)⟩)
      dsimp only [Pt.U, Pt.locs, Pt.cells, Pt.slots] at X86 l86 y86 z86 st86 hQ86
      subst l86 y86 z86
      obtain ⟨rfl, N86q, eh86⟩ := hQ86
      have N86 := Fr.app N85 N86q
      obtain ⟨fs, hr, hrun, hended, hW, hsame⟩ := X86.leave (v := some (.int (1 : Int32))) (fun h => by rw [Bd.returns] at h; cases h)
      refine ⟨_, _, pre82 _ ?_, hrun, hended, _, _, rfl, ?_, ⟨_, rfl⟩, hW, hsame.mono (by decide) (by decide)⟩
      · show Steps p.tables e below (T43.setTop (mkF m 223 #[.val (.int y1), .val (.int y2), .val (.int y3), .val (.long y4), .second, .val (.long y5), .second, .val (.long y6), .second, .val (.int v6), .val (.int xnf), .val (.long v27), .second, .val (.int v42), .val (.long v53), .second, .val (.ref b43xn), .val (.long v103), .second, .val (.long v163), .second, .val (.long xtk), .second, .val (.long v194), .second, .val (.int xbk), .unset, .unset] [(.long xsk)])) _
        refine XS.lstore X43.here hx rfl (hb hby at_223) rfl (l' := #[.val (.int y1), .val (.int y2), .val (.int y3), .val (.long y4), .second, .val (.long y5), .second, .val (.long y6), .second, .val (.int v6), .val (.int xnf), .val (.long v27), .second, .val (.int v42), .val (.long v53), .second, .val (.ref b43xn), .val (.long v103), .second, .val (.long v163), .second, .val (.long xtk), .second, .val (.long v194), .second, .val (.int xbk), .val (.long xsk), .second]) rfl ?_
        show Steps p.tables e below (T43.setTop (mkF m 225 #[.val (.int y1), .val (.int y2), .val (.int y3), .val (.long y4), .second, .val (.long y5), .second, .val (.long y6), .second, .val (.int v6), .val (.int xnf), .val (.long v27), .second, .val (.int v42), .val (.long v53), .second, .val (.ref b43xn), .val (.long v103), .second, .val (.long v163), .second, .val (.long xtk), .second, .val (.long v194), .second, .val (.int xbk), .val (.long xsk), .second] [])) _
        refine XS.aload X43.here hx rfl (hb hby at_225) rfl rfl ?_
        show Steps p.tables e below (T43.setTop (mkF m 227 #[.val (.int y1), .val (.int y2), .val (.int y3), .val (.long y4), .second, .val (.long y5), .second, .val (.long y6), .second, .val (.int v6), .val (.int xnf), .val (.long v27), .second, .val (.int v42), .val (.long v53), .second, .val (.ref b43xn), .val (.long v103), .second, .val (.long v163), .second, .val (.long xtk), .second, .val (.long v194), .second, .val (.int xbk), .val (.long xsk), .second] [(.ref b43xn)])) _
        refine st83.trans ?_
        show Steps p.tables e below (T83.setTop (mkF m 230 #[.val (.int y1), .val (.int y2), .val (.int y3), .val (.long y4), .second, .val (.long y5), .second, .val (.long y6), .second, .val (.int v6), .val (.int xnf), .val (.long v27), .second, .val (.int v42), .val (.long v53), .second, .val (.ref b43xn), .val (.long v103), .second, .val (.long v163), .second, .val (.long xtk), .second, .val (.long v194), .second, .val (.int xbk), .val (.long xsk), .second] [(.int (nar .boolean (own_bw v53 v42 v27)))])) _
        refine XS.iload X83.here hx rfl (hb hby at_230) rfl ?_
        show Steps p.tables e below (T83.setTop (mkF m 232 #[.val (.int y1), .val (.int y2), .val (.int y3), .val (.long y4), .second, .val (.long y5), .second, .val (.long y6), .second, .val (.int v6), .val (.int xnf), .val (.long v27), .second, .val (.int v42), .val (.long v53), .second, .val (.ref b43xn), .val (.long v103), .second, .val (.long v163), .second, .val (.long xtk), .second, .val (.long v194), .second, .val (.int xbk), .val (.long xsk), .second] [(.int xbk), (.int (nar .boolean (own_bw v53 v42 v27)))])) _
        refine XS.icmpNo X83.here hx rfl (hb hby at_232) rfl (teq f5).2 ?_
        show Steps p.tables e below (T83.setTop (mkF m 235 #[.val (.int y1), .val (.int y2), .val (.int y3), .val (.long y4), .second, .val (.long y5), .second, .val (.long y6), .second, .val (.int v6), .val (.int xnf), .val (.long v27), .second, .val (.int v42), .val (.long v53), .second, .val (.ref b43xn), .val (.long v103), .second, .val (.long v163), .second, .val (.long xtk), .second, .val (.long v194), .second, .val (.int xbk), .val (.long xsk), .second] [])) _
        refine XS.aload X83.here hx rfl (hb hby at_235) rfl rfl ?_
        show Steps p.tables e below (T83.setTop (mkF m 237 #[.val (.int y1), .val (.int y2), .val (.int y3), .val (.long y4), .second, .val (.long y5), .second, .val (.long y6), .second, .val (.int v6), .val (.int xnf), .val (.long v27), .second, .val (.int v42), .val (.long v53), .second, .val (.ref b43xn), .val (.long v103), .second, .val (.long v163), .second, .val (.long xtk), .second, .val (.long v194), .second, .val (.int xbk), .val (.long xsk), .second] [(.ref b43xn)])) _
        refine st84.trans ?_
        show Steps p.tables e below (T84.setTop (mkF m 240 #[.val (.int y1), .val (.int y2), .val (.int y3), .val (.long y4), .second, .val (.long y5), .second, .val (.long y6), .second, .val (.int v6), .val (.int xnf), .val (.long v27), .second, .val (.int v42), .val (.long v53), .second, .val (.ref b43xn), .val (.long v103), .second, .val (.long v163), .second, .val (.long xtk), .second, .val (.long v194), .second, .val (.int xbk), .val (.long xsk), .second] [(.long (0 : Int64))])) _
        refine XS.lconst X84.here hx rfl (hb hby at_240) ?_
        show Steps p.tables e below (T84.setTop (mkF m 241 #[.val (.int y1), .val (.int y2), .val (.int y3), .val (.long y4), .second, .val (.long y5), .second, .val (.long y6), .second, .val (.int v6), .val (.int xnf), .val (.long v27), .second, .val (.int v42), .val (.long v53), .second, .val (.ref b43xn), .val (.long v103), .second, .val (.long v163), .second, .val (.long xtk), .second, .val (.long v194), .second, .val (.int xbk), .val (.long xsk), .second] [(.long (0 : Int64)), (.long (0 : Int64))])) _
        refine XS.lcmp X84.here hx rfl (hb hby at_241) rfl ?_
        show Steps p.tables e below (T84.setTop (mkF m 242 #[.val (.int y1), .val (.int y2), .val (.int y3), .val (.long y4), .second, .val (.long y5), .second, .val (.long y6), .second, .val (.int v6), .val (.int xnf), .val (.long v27), .second, .val (.int v42), .val (.long v53), .second, .val (.ref b43xn), .val (.long v103), .second, .val (.long v163), .second, .val (.long xtk), .second, .val (.long v194), .second, .val (.int xbk), .val (.long xsk), .second] [(.int (lcmpW (0 : Int64) (0 : Int64)))])) _
        refine XS.ifNo X84.here hx rfl (hb hby at_242) rfl ((if0 _ _).trans (teq ((lw_eq (0 : Int64) (0 : Int64)).mpr rfl)).2) ?_
        show Steps p.tables e below (T84.setTop (mkF m 245 #[.val (.int y1), .val (.int y2), .val (.int y3), .val (.long y4), .second, .val (.long y5), .second, .val (.long y6), .second, .val (.int v6), .val (.int xnf), .val (.long v27), .second, .val (.int v42), .val (.long v53), .second, .val (.ref b43xn), .val (.long v103), .second, .val (.long v163), .second, .val (.long xtk), .second, .val (.long v194), .second, .val (.int xbk), .val (.long xsk), .second] [])) _
        refine XS.aload X84.here hx rfl (hb hby at_245) rfl rfl ?_
        show Steps p.tables e below (T84.setTop (mkF m 247 #[.val (.int y1), .val (.int y2), .val (.int y3), .val (.long y4), .second, .val (.long y5), .second, .val (.long y6), .second, .val (.int v6), .val (.int xnf), .val (.long v27), .second, .val (.int v42), .val (.long v53), .second, .val (.ref b43xn), .val (.long v103), .second, .val (.long v163), .second, .val (.long xtk), .second, .val (.long v194), .second, .val (.int xbk), .val (.long xsk), .second] [(.ref b43xn)])) _
        refine st85.trans ?_
        show Steps p.tables e below (T85.setTop (mkF m 250 #[.val (.int y1), .val (.int y2), .val (.int y3), .val (.long y4), .second, .val (.long y5), .second, .val (.long y6), .second, .val (.int v6), .val (.int xnf), .val (.long v27), .second, .val (.int v42), .val (.long v53), .second, .val (.ref b43xn), .val (.long v103), .second, .val (.long v163), .second, .val (.long xtk), .second, .val (.long v194), .second, .val (.int xbk), .val (.long xsk), .second] [(.long (own_sk v53 v42 v27))])) _
        refine XS.lload X85.here hx rfl (hb hby at_250) rfl ?_
        show Steps p.tables e below (T85.setTop (mkF m 252 #[.val (.int y1), .val (.int y2), .val (.int y3), .val (.long y4), .second, .val (.long y5), .second, .val (.long y6), .second, .val (.int v6), .val (.int xnf), .val (.long v27), .second, .val (.int v42), .val (.long v53), .second, .val (.ref b43xn), .val (.long v103), .second, .val (.long v163), .second, .val (.long xtk), .second, .val (.long v194), .second, .val (.int xbk), .val (.long xsk), .second] [(.long xsk), (.long (own_sk v53 v42 v27))])) _
        refine XS.lcmp X85.here hx rfl (hb hby at_252) rfl ?_
        show Steps p.tables e below (T85.setTop (mkF m 253 #[.val (.int y1), .val (.int y2), .val (.int y3), .val (.long y4), .second, .val (.long y5), .second, .val (.long y6), .second, .val (.int v6), .val (.int xnf), .val (.long v27), .second, .val (.int v42), .val (.long v53), .second, .val (.ref b43xn), .val (.long v103), .second, .val (.long v163), .second, .val (.long xtk), .second, .val (.long v194), .second, .val (.int xbk), .val (.long xsk), .second] [(.int (lcmpW (own_sk v53 v42 v27) xsk))])) _
        refine XS.ifNo X85.here hx rfl (hb hby at_253) rfl ((if0 _ _).trans (teq ((lw_eq (own_sk v53 v42 v27) xsk).mpr f6)).2) ?_
        show Steps p.tables e below (T85.setTop (mkF m 256 #[.val (.int y1), .val (.int y2), .val (.int y3), .val (.long y4), .second, .val (.long y5), .second, .val (.long y6), .second, .val (.int v6), .val (.int xnf), .val (.long v27), .second, .val (.int v42), .val (.long v53), .second, .val (.ref b43xn), .val (.long v103), .second, .val (.long v163), .second, .val (.long xtk), .second, .val (.long v194), .second, .val (.int xbk), .val (.long xsk), .second] [])) _
        refine XS.aload X85.here hx rfl (hb hby at_256) rfl rfl ?_
        show Steps p.tables e below (T85.setTop (mkF m 258 #[.val (.int y1), .val (.int y2), .val (.int y3), .val (.long y4), .second, .val (.long y5), .second, .val (.long y6), .second, .val (.int v6), .val (.int xnf), .val (.long v27), .second, .val (.int v42), .val (.long v53), .second, .val (.ref b43xn), .val (.long v103), .second, .val (.long v163), .second, .val (.long xtk), .second, .val (.long v194), .second, .val (.int xbk), .val (.long xsk), .second] [(.ref b43xn)])) _
        refine st86.trans ?_
        show Steps p.tables e below (T86.setTop (mkF m 261 #[.val (.int y1), .val (.int y2), .val (.int y3), .val (.long y4), .second, .val (.long y5), .second, .val (.long y6), .second, .val (.int v6), .val (.int xnf), .val (.long v27), .second, .val (.int v42), .val (.long v53), .second, .val (.ref b43xn), .val (.long v103), .second, .val (.long v163), .second, .val (.long xtk), .second, .val (.long v194), .second, .val (.int xbk), .val (.long xsk), .second] [(.int (own_tk v53 v42 v27))])) _
        refine XS.lload X86.here hx rfl (hb hby at_261) rfl ?_
        show Steps p.tables e below (T86.setTop (mkF m 263 #[.val (.int y1), .val (.int y2), .val (.int y3), .val (.long y4), .second, .val (.long y5), .second, .val (.long y6), .second, .val (.int v6), .val (.int xnf), .val (.long v27), .second, .val (.int v42), .val (.long v53), .second, .val (.ref b43xn), .val (.long v103), .second, .val (.long v163), .second, .val (.long xtk), .second, .val (.long v194), .second, .val (.int xbk), .val (.long xsk), .second] [(.long xtk), (.int (own_tk v53 v42 v27))])) _
        refine XS.l2i X86.here hx rfl (hb hby at_263) rfl ?_
        show Steps p.tables e below (T86.setTop (mkF m 264 #[.val (.int y1), .val (.int y2), .val (.int y3), .val (.long y4), .second, .val (.long y5), .second, .val (.long y6), .second, .val (.int v6), .val (.int xnf), .val (.long v27), .second, .val (.int v42), .val (.long v53), .second, .val (.ref b43xn), .val (.long v103), .second, .val (.long v163), .second, .val (.long xtk), .second, .val (.long v194), .second, .val (.int xbk), .val (.long xsk), .second] [(.int (xtk.toInt32)), (.int (own_tk v53 v42 v27))])) _
        refine XS.icmpNo X86.here hx rfl (hb hby at_264) rfl (teq f3).2 ?_
        show Steps p.tables e below (T86.setTop (mkF m 267 #[.val (.int y1), .val (.int y2), .val (.int y3), .val (.long y4), .second, .val (.long y5), .second, .val (.long y6), .second, .val (.int v6), .val (.int xnf), .val (.long v27), .second, .val (.int v42), .val (.long v53), .second, .val (.ref b43xn), .val (.long v103), .second, .val (.long v163), .second, .val (.long xtk), .second, .val (.long v194), .second, .val (.int xbk), .val (.long xsk), .second] [])) _
        refine XS.iconst X86.here hx rfl (hb hby at_267) ?_
        show Steps p.tables e below (T86.setTop (mkF m 268 #[.val (.int y1), .val (.int y2), .val (.int y3), .val (.long y4), .second, .val (.long y5), .second, .val (.long y6), .second, .val (.int v6), .val (.int xnf), .val (.long v27), .second, .val (.int v42), .val (.long v53), .second, .val (.ref b43xn), .val (.long v103), .second, .val (.long v163), .second, .val (.long xtk), .second, .val (.long v194), .second, .val (.int xbk), .val (.long xsk), .second] [(.int (1 : Int32))])) _
        refine XS.goto X86.here hx rfl (pc0 := 268) (pc' := 272) rfl (hb hby at_268) (by decide) (by decide) ?_
        show Steps p.tables e below (T86.setTop (mkF m 272 #[.val (.int y1), .val (.int y2), .val (.int y3), .val (.long y4), .second, .val (.long y5), .second, .val (.long y6), .second, .val (.int v6), .val (.int xnf), .val (.long v27), .second, .val (.int v42), .val (.long v53), .second, .val (.ref b43xn), .val (.long v103), .second, .val (.long v163), .second, .val (.long xtk), .second, .val (.long v194), .second, .val (.int xbk), .val (.long xsk), .second] [(.int (1 : Int32))])) _
        exact retN X86 hx (t := .boolean) Bd.returns (by simp) (hb hby at_272) hr
      · show own_Q0 Z y1 y2 y3 y4 y5 y6 wI wN wP h0 n0 _ T86.heap _
        rw [eh86]
        exact ⟨rfl, N86⟩
  · have pre87 : ∀ t, Steps p.tables e below (s₁.setTop (mkF m 276 #[.val (.int y1), .val (.int y2), .val (.int y3), .val (.long y4), .second, .val (.long y5), .second, .val (.long y6), .second, .val (.int v6), .val (.int xnf), .val (.long v27), .second, .unset, .unset, .unset, .unset, .unset, .unset, .unset, .unset, .unset, .unset, .unset, .unset, .unset, .unset, .unset] [(.int (1 : Int32)), (.int v6)])) t → Steps p.tables e below (s₁.setTop (entryFrame m #[(.int y1), (.int y2), (.int y3), (.long y4), (.long y5), (.long y6)] maxLocals)) t := by
      intro t k
      refine pre5 _ ?_
      show Steps p.tables e below (s₁.setTop (mkF m 31 #[.val (.int y1), .val (.int y2), .val (.int y3), .val (.long y4), .second, .val (.long y5), .second, .val (.long y6), .second, .val (.int v6), .val (.int xnf), .val (.long v27), .second, .unset, .unset, .unset, .unset, .unset, .unset, .unset, .unset, .unset, .unset, .unset, .unset, .unset, .unset, .unset] [(.int v6)])) _
      refine XS.ifYes X0.here hx rfl (pc0 := 31) (pc' := 273) rfl (hb hby at_31) rfl ((if0 _ _).trans (feq hc31).2) (by decide) (by decide) ?_
      show Steps p.tables e below (s₁.setTop (mkF m 273 #[.val (.int y1), .val (.int y2), .val (.int y3), .val (.long y4), .second, .val (.long y5), .second, .val (.long y6), .second, .val (.int v6), .val (.int xnf), .val (.long v27), .second, .unset, .unset, .unset, .unset, .unset, .unset, .unset, .unset, .unset, .unset, .unset, .unset, .unset, .unset, .unset] [])) _
      refine XS.iload X0.here hx rfl (hb hby at_273) rfl ?_
      show Steps p.tables e below (s₁.setTop (mkF m 275 #[.val (.int y1), .val (.int y2), .val (.int y3), .val (.long y4), .second, .val (.long y5), .second, .val (.long y6), .second, .val (.int v6), .val (.int xnf), .val (.long v27), .second, .unset, .unset, .unset, .unset, .unset, .unset, .unset, .unset, .unset, .unset, .unset, .unset, .unset, .unset, .unset] [(.int v6)])) _
      refine XS.iconst X0.here hx rfl (hb hby at_275) ?_
      exact k
    by_cases hc276 : v6 = (1 : Int32)
    · obtain ⟨T88, X88, e88, st88⟩ := getS2 X0 hx hZ hown (host := "") (Or.inl (hw _ (List.mem_of_getElem? (i := 88) rfl))) Via.refl e0 S_NEXT (g := (mkF m 279 #[.val (.int y1), .val (.int y2), .val (.int y3), .val (.long y4), .second, .val (.long y5), .second, .val (.long y6), .second, .val (.int v6), .val (.int xnf), .val (.long v27), .second, .unset, .unset, .unset, .unset, .unset, .unset, .unset, .unset, .unset, .unset, .unset, .unset, .unset, .unset, .unset] [])) rfl (hb hby at_279)
      obtain ⟨T89, h89, X89, e89, E89, A89, D89, -, st89⟩ := newO X88 hx hZ hown (hw _ (List.mem_of_getElem? (i := 9) rfl)) (hw _ (List.mem_of_getElem? (i := 10) rfl)) (hw _ (List.mem_of_getElem? (i := 11) rfl)) e88 (g := (mkF m 290 #[.val (.int y1), .val (.int y2), .val (.int y3), .val (.long y4), .second, .val (.long y5), .second, .val (.long y6), .second, .val (.int v6), .val (.int xnf), .val (.long v27), .second, .val (.ref wN), .unset, .unset, .unset, .unset, .unset, .unset, .unset, .unset, .unset, .unset, .unset, .unset, .unset, .unset] [])) rfl (hb hby at_290) (by decide) (by decide)
      obtain ⟨b89, g89⟩ : ∃ z, z = h0.size := ⟨_, rfl⟩
      rw [← g89] at A89 D89 st89
      have ne_wI_b89 : wI ≠ b89 := Nat.ne_of_lt (Nat.lt_of_lt_of_le F_ordinal_wI.lt (Nat.le_of_eq g89.symm))
      have ne_wN_b89 : wN ≠ b89 := Nat.ne_of_lt (Nat.lt_of_lt_of_le F_ordinal_wN.lt (Nat.le_of_eq g89.symm))
      have ne_wP_b89 : wP ≠ b89 := Nat.ne_of_lt (Nat.lt_of_lt_of_le F_ordinal_wP.lt (Nat.le_of_eq g89.symm))
      have g_b89 : n0 ≤ b89 := Nat.le_trans Z0 (Nat.le_of_eq g89.symm)
      have sz_b89 : h0.size ≤ b89 := Nat.le_trans K0.1 (Nat.le_of_eq g89.symm)
      have K89 : Keep h0 h89 [] := K0.ext E89
      have F90 : Sta Z h89 "com/example/tracebook/tracebook/model/Paging$Type" "INIT" "Lcom/example/tracebook/tracebook/model/Paging$Type;" (.ref wI) := S_INIT.ext E89
      have F91 : Sta Z h89 "com/example/tracebook/tracebook/model/Paging$Type" "NEXT" "Lcom/example/tracebook/tracebook/model/Paging$Type;" (.ref wN) := S_NEXT.ext E89
      have F92 : Sta Z h89 "com/example/tracebook/tracebook/model/Paging$Type" "PRE" "Lcom/example/tracebook/tracebook/model/Paging$Type;" (.ref wP) := S_PRE.ext E89
      have F93 : Exa Z h89 wI "com/example/tracebook/tracebook/model/Paging$Type" := E_wI.ext E89
      have F94 : Exa Z h89 wN "com/example/tracebook/tracebook/model/Paging$Type" := E_wN.ext E89
      have F95 : Exa Z h89 wP "com/example/tracebook/tracebook/model/Paging$Type" := E_wP.ext E89
      have F96 : Fld Z h89 wI "java/lang/Enum" "ordinal" "I" (.int (0 : Int32)) := F_ordinal_wI.ext E89
      have F97 : Fld Z h89 wN "java/lang/Enum" "ordinal" "I" (.int (1 : Int32)) := F_ordinal_wN.ext E89
      have F98 : Fld Z h89 wP "java/lang/Enum" "ordinal" "I" (.int (2 : Int32)) := F_ordinal_wP.ext E89
      have Z89 : n0 ≤ h89.size := Nat.le_trans Z0 E89.1
      have F99 : Fld Z h89 b89 "com/example/tracebook/tracebook/model/Paging" "type" "Lcom/example/tracebook/tracebook/model/Paging$Type;" .null := D89 (Or.inr (hw _ (List.mem_of_getElem? (i := 27) rfl))) (ty := (.object "com/example/tracebook/tracebook/model/Paging$Type")) (by decide)
      have F100 : Fld Z h89 b89 "com/example/tracebook/tracebook/model/Paging" "newestFirst" "Z" (.int (0 : Int32)) := D89 (Or.inr (hw _ (List.mem_of_getElem? (i := 29) rfl))) (ty := .boolean) (by decide)
      have F101 : Fld Z h89 b89 "com/example/tracebook/tracebook/model/Paging" "pageSize" "I" (.int (0 : Int32)) := D89 (Or.inr (hw _ (List.mem_of_getElem? (i := 31) rfl))) (ty := .int) (by decide)
      have F102 : Fld Z h89 b89 "com/example/tracebook/tracebook/model/Paging" "pageIndex" "J" (.long (0 : Int64)) := D89 (Or.inr (hw _ (List.mem_of_getElem? (i := 33) rfl))) (ty := .long) (by decide)
      have F103 : Fld Z h89 b89 "com/example/tracebook/tracebook/model/Paging" "recordTime" "J" (.long (0 : Int64)) := D89 (Or.inr (hw _ (List.mem_of_getElem? (i := 35) rfl))) (ty := .long) (by decide)
      obtain ⟨_, _, ⟨T104, L104, k104, n104⟩, -, X104, ⟨Lc104, hQ104, l104, y104, z104⟩, st104⟩ := X89.specialBack hx (y := (⟨"com/example/tracebook/tracebook/model/Paging", "<init>", "(Lcom/example/tracebook/tracebook/model/Paging$Type;ZIJJ)V"⟩ : MethodName)) rfl hown (mvT hZ (hw _ (List.mem_of_getElem? (i := 15) rfl))) (mvT hZ (hw _ (List.mem_of_getElem? (i := 16) rfl))) (mvT hZ (hw _ (List.mem_of_getElem? (i := 17) rfl))) (by decide) (backOf (W := 1) (own_rm3 l Z a0 hw [] b89 wN xnf y3 y4 y5 h89 n0 Z89 A89 F99 F100 F101 F102 F103 g_b89) hZ (hw _ (List.mem_of_getElem? (i := 17) rfl)) (hw _ (List.mem_of_getElem? (i := 11) rfl)) (by decide) (by decide)) (g := (mkF m 302 #[.val (.int y1), .val (.int y2), .val (.int y3), .val (.long y4), .second, .val (.long y5), .second, .val (.long y6), .second, .val (.int v6), .val (.int xnf), .val (.long v27), .second, .val (.ref wN), .unset, .unset, .unset, .unset, .unset, .unset, .unset, .unset, .unset, .unset, .unset, .unset, .unset, .unset] [(.long y5), (.long y4), (.int y3), (.int xnf), (.ref wN), (.ref b89), (.ref b89)])) rfl (by rw [hml]; rfl) (Steps.refl _) (a := b89) (argsL := [(.ref wN), (.int xnf), (.int y3), (.long y4), (.long y5)]) (rest := [(.ref b89)]) (lenOf own_pd5 rfl) rfl (by show 2 * 0 + _ ≤ _; exact Nat.le_of_eq rfl) (hb hby at_302) (fun _ _ => ⟨rfl, e89, (by decide : 1 + 0 ≤ _), (by decide : 5 + 0 ≤ _)⟩)
      dsimp only [Pt.U, Pt.locs, Pt.cells, Pt.slots] at X104 l104 y104 z104 st104 hQ104
      subst l104 y104 z104
      obtain ⟨rfl, N104q, K104q, F105, F106, F107, F108, F109, F110⟩ := hQ104
      have K104 := K104q
      have KK104 : Keep h0 T104.heap [] := K89.trans K104 (allS (Or.inr sz_b89) all0)
      have F111 : Sta Z T104.heap "com/example/tracebook/tracebook/model/Paging$Type" "INIT" "Lcom/example/tracebook/tracebook/model/Paging$Type;" (.ref wI) := S_INIT.ext (own_ext KK104)
      have F112 : Sta Z T104.heap "com/example/tracebook/tracebook/model/Paging$Type" "NEXT" "Lcom/example/tracebook/tracebook/model/Paging$Type;" (.ref wN) := S_NEXT.ext (own_ext KK104)
      have F113 : Sta Z T104.heap "com/example/tracebook/tracebook/model/Paging$Type" "PRE" "Lcom/example/tracebook/tracebook/model/Paging$Type;" (.ref wP) := S_PRE.ext (own_ext KK104)
      have F114 : Exa Z T104.heap wI "com/example/tracebook/tracebook/model/Paging$Type" := F93.keep K104
      have F115 : Exa Z T104.heap wN "com/example/tracebook/tracebook/model/Paging$Type" := F94.keep K104
      have F116 : Exa Z T104.heap wP "com/example/tracebook/tracebook/model/Paging$Type" := F95.keep K104
      have F117 : Fld Z T104.heap wI "java/lang/Enum" "ordinal" "I" (.int (0 : Int32)) := F96.keep K104 (ninS ne_wI_b89 nin0)
      have F118 : Fld Z T104.heap wN "java/lang/Enum" "ordinal" "I" (.int (1 : Int32)) := F97.keep K104 (ninS ne_wN_b89 nin0)
      have F119 : Fld Z T104.heap wP "java/lang/Enum" "ordinal" "I" (.int (2 : Int32)) := F98.keep K104 (ninS ne_wP_b89 nin0)
      have F120 : Exa Z T104.heap b89 "com/example/tracebook/tracebook/model/Paging" := A89.keep K104
      have Z104 : n0 ≤ T104.heap.size := Nat.le_trans Z89 K104.1
      have N104 := Fr.app N0 N104q
      obtain ⟨cq121, kq121, q121a, q121b, q121c⟩ := isOf hZ rfl F105
      obtain ⟨_, _, ⟨T121, L121, k121, n121⟩, -, X121, ⟨Lc121, hQ121, l121, y121, z121⟩, st121⟩ := X104.virtualBack hx (y := (⟨"com/example/tracebook/tracebook/model/Paging", "walk", "(J)Lcom/example/tracebook/tracebook/model/Paging$Walk;"⟩ : MethodName)) (z := (⟨"com/example/tracebook/tracebook/model/Paging", "walk", "(J)Lcom/example/tracebook/tracebook/model/Paging$Walk;"⟩ : MethodName)) hown (mvT hZ (hw _ (List.mem_of_getElem? (i := 36) rfl))) (mvT hZ (hw _ (List.mem_of_getElem? (i := 37) rfl))) (notFace_of_selects (args := #[]) (mvT hZ (hw _ (List.mem_of_getElem? (i := 39) rfl)))) (mvT hZ (hw _ (List.mem_of_getElem? (i := 39) rfl))) (mvT hZ (hw _ (List.mem_of_getElem? (i := 38) rfl))) (by decide) (backOf (W := 0) (own_rm6_1 l Z a0 hw [] b89 v27 wN y3 y4 y5 T104.heap n0 Z104 F106 F115 F118 F108 F109 F110) hZ (hw _ (List.mem_of_getElem? (i := 40) rfl)) (hw _ (List.mem_of_getElem? (i := 11) rfl)) (by decide) (by decide)) q121a q121c (g := (mkF m 307 #[.val (.int y1), .val (.int y2), .val (.int y3), .val (.long y4), .second, .val (.long y5), .second, .val (.long y6), .second, .val (.int v6), .val (.int xnf), .val (.long v27), .second, .val (.ref wN), .unset, .unset, .unset, .unset, .unset, .unset, .unset, .unset, .unset, .unset, .unset, .unset, .unset, .unset] [(.long v27), (.ref b89)])) rfl (by rw [hml]; rfl) (Steps.refl _) (argsL := [(.long v27)]) (rest := []) (lenOf own_pd6 rfl) rfl (by show 2 * 0 + _ ≤ _; exact Nat.le_of_eq rfl) (hb hby at_307) (fun _ _ => ⟨rfl, rfl, (by decide : 1 + 1 ≤ _), (by decide : 5 + 4 ≤ _)⟩)
      dsimp only [Pt.U, Pt.locs, Pt.cells, Pt.slots] at X121 l121 y121 z121 st121 hQ121
      subst l121 y121 z121
      obtain ⟨b121xn, rfl, N121q, K121q, sz0_b121xn, lt_b121xn, F122, F123, F124, F125, F126⟩ := hQ121
      have K121 := K121q
      have ne_wI_b121xn : wI ≠ b121xn := Nat.ne_of_lt (Nat.lt_of_lt_of_le F117.lt sz0_b121xn)
      have ne_wN_b121xn : wN ≠ b121xn := Nat.ne_of_lt (Nat.lt_of_lt_of_le F118.lt sz0_b121xn)
      have ne_wP_b121xn : wP ≠ b121xn := Nat.ne_of_lt (Nat.lt_of_lt_of_le F119.lt sz0_b121xn)
      have ne_b89_b121xn : b89 ≠ b121xn := Nat.ne_of_lt (Nat.lt_of_lt_of_le F110.lt sz0_b121xn)
      have g_b121xn : n0 ≤ b121xn := Nat.le_trans Z104 sz0_b121xn
      have sz_b121xn : h0.size ≤ b121xn := Nat.le_trans KK104.1 sz0_b121xn
      have KK121 : Keep h0 T121.heap [] := KK104.trans K121 all0
      have F127 : Sta Z T121.heap "com/example/tracebook/tracebook/model/Paging$Type" "INIT" "Lcom/example/tracebook/tracebook/model/Paging$Type;" (.ref wI) := S_INIT.ext (own_ext KK121)
      have F128 : Sta Z T121.heap "com/example/tracebook/tracebook/model/Paging$Type" "NEXT" "Lcom/example/tracebook/tracebook/model/Paging$Type;" (.ref wN) := S_NEXT.ext (own_ext KK121)
      have F129 : Sta Z T121.heap "com/example/tracebook/tracebook/model/Paging$Type" "PRE" "Lcom/example/tracebook/tracebook/model/Paging$Type;" (.ref wP) := S_PRE.ext (own_ext KK121)
      have F130 : Exa Z T121.heap wI "com/example/tracebook/tracebook/model/Paging$Type" := F114.keep K121
      have F131 : Exa Z T121.heap wN "com/example/tracebook/tracebook/model/Paging$Type" := F115.keep K121
      have F132 : Exa Z T121.heap wP "com/example/tracebook/tracebook/model/Paging$Type" := F116.keep K121
      have F133 : Fld Z T121.heap wI "java/lang/Enum" "ordinal" "I" (.int (0 : Int32)) := F117.keep K121 nin0
      have F134 : Fld Z T121.heap wN "java/lang/Enum" "ordinal" "I" (.int (1 : Int32)) := F118.keep K121 nin0
      have F135 : Fld Z T121.heap wP "java/lang/Enum" "ordinal" "I" (.int (2 : Int32)) := F119.keep K121 nin0
      have F136 : Exa Z T121.heap b89 "com/example/tracebook/tracebook/model/Paging" := F105.keep K121
      have F137 : Fld Z T121.heap b89 "com/example/tracebook/tracebook/model/Paging" "type" "Lcom/example/tracebook/tracebook/model/Paging$Type;" (.ref wN) := F106.keep K121 nin0
      have F138 : Fld Z T121.heap b89 "com/example/tracebook/tracebook/model/Paging" "newestFirst" "Z" (.int (xnf &&& 1)) := F107.keep K121 nin0
      have F139 : Fld Z T121.heap b89 "com/example/tracebook/tracebook/model/Paging" "pageSize" "I" (.int y3) := F108.keep K121 nin0
      have F140 : Fld Z T121.heap b89 "com/example/tracebook/tracebook/model/Paging" "pageIndex" "J" (.long y4) := F109.keep K121 nin0
      have F141 : Fld Z T121.heap b89 "com/example/tracebook/tracebook/model/Paging" "recordTime" "J" (.long y5) := F110.keep K121 nin0
      have Z121 : n0 ≤ T121.heap.size := Nat.le_trans Z104 K121.1
      have N121 := Fr.app N104 N121q
      obtain ⟨cq142, kq142, q142a, q142b, q142c⟩ := isOf hZ rfl F122
      obtain ⟨_, _, ⟨T142, L142, k142, n142⟩, -, X142, ⟨Lc142, hQ142, l142, y142, z142⟩, st142⟩ := X121.virtualBack hx (y := (⟨"com/example/tracebook/tracebook/model/Paging$Walk", "backward", "()Z"⟩ : MethodName)) (z := (⟨"com/example/tracebook/tracebook/model/Paging$Walk", "backward", "()Z"⟩ : MethodName)) hown (mvT hZ (hw _ (List.mem_of_getElem? (i := 66) rfl))) (mvT hZ (hw _ (List.mem_of_getElem? (i := 67) rfl))) (notFace_of_selects (args := #[]) (mvT hZ (hw _ (List.mem_of_getElem? (i := 69) rfl)))) (mvT hZ (hw _ (List.mem_of_getElem? (i := 69) rfl))) (mvT hZ (hw _ (List.mem_of_getElem? (i := 68) rfl))) (by decide) (backOf (W := 0) (own_rm9 l Z a0 hw [] b121xn (0 : Int32) T121.heap n0 Z121 F123) hZ (hw _ (List.mem_of_getElem? (i := 70) rfl)) (hw _ (List.mem_of_getElem? (i := 53) rfl)) (by decide) (by decide)) q142a q142c (g := (mkF m 314 #[.val (.int y1), .val (.int y2), .val (.int y3), .val (.long y4), .second, .val (.long y5), .second, .val (.long y6), .second, .val (.int v6), .val (.int xnf), .val (.long v27), .second, .val (.ref wN), .val (.ref b121xn), .unset, .unset, .unset, .unset, .unset, .unset, .unset, .unset, .unset, .unset, .unset, .unset, .unset] [(.ref b121xn)])) rfl (by rw [hml]; rfl) (Steps.refl _) (argsL := []) (rest := []) (lenOf own_pd7 rfl) rfl (by show 2 * 0 + _ ≤ _; exact Nat.le_of_eq rfl) (hb hby at_314) (fun _ _ => ⟨rfl, rfl, (by decide : 2 + 0 ≤ _), (by decide : 9 + 0 ≤ _)⟩)
      dsimp only [Pt.U, Pt.locs, Pt.cells, Pt.slots] at X142 l142 y142 z142 st142 hQ142
      subst l142 y142 z142
      obtain ⟨rfl, N142q, eh142⟩ := hQ142
      have N142 := Fr.app N121 N142q
      have hd143 : ¬ (v6 = (2 : Int32)) := (by rw [hc276]; decide)
      have hd144 : (nar .boolean (0 : Int32)) = (0 : Int32) := (by rfl)
      obtain ⟨cq145, kq145, q145a, q145b, q145c⟩ := isOf hZ eh142 F122
      obtain ⟨_, _, ⟨T145, L145, k145, n145⟩, -, X145, ⟨Lc145, hQ145, l145, y145, z145⟩, st145⟩ := X142.virtualBack hx (y := (⟨"com/example/tracebook/tracebook/model/Paging$Walk", "from", "()J"⟩ : MethodName)) (z := (⟨"com/example/tracebook/tracebook/model/Paging$Walk", "from", "()J"⟩ : MethodName)) hown (mvT hZ (hw _ (List.mem_of_getElem? (i := 71) rfl))) (mvT hZ (hw _ (List.mem_of_getElem? (i := 72) rfl))) (notFace_of_selects (args := #[]) (mvT hZ (hw _ (List.mem_of_getElem? (i := 74) rfl)))) (mvT hZ (hw _ (List.mem_of_getElem? (i := 74) rfl))) (mvT hZ (hw _ (List.mem_of_getElem? (i := 73) rfl))) (by decide) (backOf (W := 0) (own_rm10 l Z a0 hw [] b121xn y5 T121.heap n0 Z121 F124) hZ (hw _ (List.mem_of_getElem? (i := 75) rfl)) (hw _ (List.mem_of_getElem? (i := 53) rfl)) (by decide) (by decide)) q145a q145c (g := (mkF m 333 #[.val (.int y1), .val (.int y2), .val (.int y3), .val (.long y4), .second, .val (.long y5), .second, .val (.long y6), .second, .val (.int v6), .val (.int xnf), .val (.long v27), .second, .val (.ref wN), .val (.ref b121xn), .unset, .unset, .unset, .unset, .unset, .unset, .unset, .unset, .unset, .unset, .unset, .unset, .unset] [(.ref b121xn)])) rfl (by rw [hml]; rfl) (Steps.refl _) (argsL := []) (rest := []) (lenOf own_pd8 rfl) rfl (by show 2 * 0 + _ ≤ _; exact Nat.le_of_eq rfl) (hb hby at_333) (fun _ _ => ⟨rfl, eh142, (by decide : 2 + 0 ≤ _), (by decide : 9 + 0 ≤ _)⟩)
      dsimp only [Pt.U, Pt.locs, Pt.cells, Pt.slots] at X145 l145 y145 z145 st145 hQ145
      subst l145 y145 z145
      obtain ⟨rfl, N145q, eh145⟩ := hQ145
      have N145 := Fr.app N142 N145q
      obtain ⟨cq146, kq146, q146a, q146b, q146c⟩ := isOf hZ eh145 F122
      obtain ⟨_, _, ⟨T146, L146, k146, n146⟩, -, X146, ⟨Lc146, hQ146, l146, y146, z146⟩, st146⟩ := X145.virtualBack hx (y := (⟨"com/example/tracebook/tracebook/model/Paging$Walk", "skip", "()J"⟩ : MethodName)) (z := (⟨"com/example/tracebook/tracebook/model/Paging$Walk", "skip", "()J"⟩ : MethodName)) hown (mvT hZ (hw _ (List.mem_of_getElem? (i := 76) rfl))) (mvT hZ (hw _ (List.mem_of_getElem? (i := 77) rfl))) (notFace_of_selects (args := #[]) (mvT hZ (hw _ (List.mem_of_getElem? (i := 79) rfl)))) (mvT hZ (hw _ (List.mem_of_getElem? (i := 79) rfl))) (mvT hZ (hw _ (List.mem_of_getElem? (i := 78) rfl))) (by decide) (backOf (W := 0) (own_rm11 l Z a0 hw [] b121xn (0 : Int64) T121.heap n0 Z121 F125) hZ (hw _ (List.mem_of_getElem? (i := 80) rfl)) (hw _ (List.mem_of_getElem? (i := 53) rfl)) (by decide) (by decide)) q146a q146c (g := (mkF m 344 #[.val (.int y1), .val (.int y2), .val (.int y3), .val (.long y4), .second, .val (.long y5), .second, .val (.long y6), .second, .val (.int v6), .val (.int xnf), .val (.long v27), .second, .val (.ref wN), .val (.ref b121xn), .unset, .unset, .unset, .unset, .unset, .unset, .unset, .unset, .unset, .unset, .unset, .unset, .unset] [(.ref b121xn)])) rfl (by rw [hml]; rfl) (Steps.refl _) (argsL := []) (rest := []) (lenOf own_pd8 rfl) rfl (by show 2 * 0 + _ ≤ _; exact Nat.le_of_eq rfl) (hb hby at_344) (fun _ _ => ⟨rfl, eh145, (by decide : 2 + 0 ≤ _), (by decide : 9 + 0 ≤ _)⟩)
      dsimp only [Pt.U, Pt.locs, Pt.cells, Pt.slots] at X146 l146 y146 z146 st146 hQ146
      subst l146 y146 z146
      obtain ⟨rfl, N146q, eh146⟩ := hQ146
      have N146 := Fr.app N145 N146q
      obtain ⟨cq147, kq147, q147a, q147b, q147c⟩ := isOf hZ eh146 F122
      obtain ⟨_, _, ⟨T147, L147, k147, n147⟩, -, X147, ⟨Lc147, hQ147, l147, y147, z147⟩, st147⟩ := X146.virtualBack hx (y := (⟨"com/example/tracebook/tracebook/model/Paging$Walk", "take", "()I"⟩ : MethodName)) (z := (⟨"com/example/tracebook/tracebook/model/Paging$Walk", "take", "()I"⟩ : MethodName)) hown (mvT hZ (hw _ (List.mem_of_getElem? (i := 81) rfl))) (mvT hZ (hw _ (List.mem_of_getElem? (i := 82) rfl))) (notFace_of_selects (args := #[]) (mvT hZ (hw _ (List.mem_of_getElem? (i := 84) rfl)))) (mvT hZ (hw _ (List.mem_of_getElem? (i := 84) rfl))) (mvT hZ (hw _ (List.mem_of_getElem? (i := 83) rfl))) (by decide) (backOf (W := 0) (own_rm12 l Z a0 hw [] b121xn y3 T121.heap n0 Z121 F126) hZ (hw _ (List.mem_of_getElem? (i := 85) rfl)) (hw _ (List.mem_of_getElem? (i := 53) rfl)) (by decide) (by decide)) q147a q147c (g := (mkF m 354 #[.val (.int y1), .val (.int y2), .val (.int y3), .val (.long y4), .second, .val (.long y5), .second, .val (.long y6), .second, .val (.int v6), .val (.int xnf), .val (.long v27), .second, .val (.ref wN), .val (.ref b121xn), .unset, .unset, .unset, .unset, .unset, .unset, .unset, .unset, .unset, .unset, .unset, .unset, .unset] [(.ref b121xn)])) rfl (by rw [hml]; rfl) (Steps.refl _) (argsL := []) (rest := []) (lenOf own_pd1 rfl) rfl (by show 2 * 0 + _ ≤ _; exact Nat.le_of_eq rfl) (hb hby at_354) (fun _ _ => ⟨rfl, eh146, (by decide : 2 + 0 ≤ _), (by decide : 9 + 0 ≤ _)⟩)
      dsimp only [Pt.U, Pt.locs, Pt.cells, Pt.slots] at X147 l147 y147 z147 st147 hQ147
      subst l147 y147 z147
      obtain ⟨rfl, N147q, eh147⟩ := hQ147
      have N147 := Fr.app N146 N147q
      obtain ⟨fs, hr, hrun, hended, hW, hsame⟩ := X147.leave (v := some (.int (1 : Int32))) (fun h => by rw [Bd.returns] at h; cases h)
      refine ⟨_, _, pre87 _ ?_, hrun, hended, _, _, rfl, ?_, ⟨_, rfl⟩, hW, hsame.mono (by decide) (by decide)⟩
      · show Steps p.tables e below (s₁.setTop (mkF m 276 #[.val (.int y1), .val (.int y2), .val (.int y3), .val (.long y4), .second, .val (.long y5), .second, .val (.long y6), .second, .val (.int v6), .val (.int xnf), .val (.long v27), .second, .unset, .unset, .unset, .unset, .unset, .unset, .unset, .unset, .unset, .unset, .unset, .unset, .unset, .unset, .unset] [(.int (1 : Int32)), (.int v6)])) _
        refine XS.icmpNo X0.here hx rfl (hb hby at_276) rfl (teq hc276).2 ?_
        show Steps p.tables e below (s₁.setTop (mkF m 279 #[.val (.int y1), .val (.int y2), .val (.int y3), .val (.long y4), .second, .val (.long y5), .second, .val (.long y6), .second, .val (.int v6), .val (.int xnf), .val (.long v27), .second, .unset, .unset, .unset, .unset, .unset, .unset, .unset, .unset, .unset, .unset, .unset, .unset, .unset, .unset, .unset] [])) _
        refine st88 _ ?_
        show Steps p.tables e below (T88.setTop (mkF m 282 #[.val (.int y1), .val (.int y2), .val (.int y3), .val (.long y4), .second, .val (.long y5), .second, .val (.long y6), .second, .val (.int v6), .val (.int xnf), .val (.long v27), .second, .unset, .unset, .unset, .unset, .unset, .unset, .unset, .unset, .unset, .unset, .unset, .unset, .unset, .unset, .unset] [(.ref wN)])) _
        refine XS.goto X88.here hx rfl (pc0 := 282) (pc' := 288) rfl (hb hby at_282) (by decide) (by decide) ?_
        show Steps p.tables e below (T88.setTop (mkF m 288 #[.val (.int y1), .val (.int y2), .val (.int y3), .val (.long y4), .second, .val (.long y5), .second, .val (.long y6), .second, .val (.int v6), .val (.int xnf), .val (.long v27), .second, .unset, .unset, .unset, .unset, .unset, .unset, .unset, .unset, .unset, .unset, .unset, .unset, .unset, .unset, .unset] [(.ref wN)])) _
        refine XS.astore X88.here hx rfl (hb hby at_288) rfl rfl (l' := #[.val (.int y1), .val (.int y2), .val (.int y3), .val (.long y4), .second, .val (.long y5), .second, .val (.long y6), .second, .val (.int v6), .val (.int xnf), .val (.long v27), .second, .val (.ref wN), .unset, .unset, .unset, .unset, .unset, .unset, .unset, .unset, .unset, .unset, .unset, .unset, .unset, .unset]) rfl ?_
        show Steps p.tables e below (T88.setTop (mkF m 290 #[.val (.int y1), .val (.int y2), .val (.int y3), .val (.long y4), .second, .val (.long y5), .second, .val (.long y6), .second, .val (.int v6), .val (.int xnf), .val (.long v27), .second, .val (.ref wN), .unset, .unset, .unset, .unset, .unset, .unset, .unset, .unset, .unset, .unset, .unset, .unset, .unset, .unset] [])) _
        refine st89 _ ?_
        show Steps p.tables e below (T89.setTop (mkF m 293 #[.val (.int y1), .val (.int y2), .val (.int y3), .val (.long y4), .second, .val (.long y5), .second, .val (.long y6), .second, .val (.int v6), .val (.int xnf), .val (.long v27), .second, .val (.ref wN), .unset, .unset, .unset, .unset, .unset, .unset, .unset, .unset, .unset, .unset, .unset, .unset, .unset, .unset] [(.ref b89)])) _
        refine XS.dup X89.here hx rfl (hb hby at_293) rfl rfl ?_
        show Steps p.tables e below (T89.setTop (mkF m 294 #[.val (.int y1), .val (.int y2), .val (.int y3), .val (.long y4), .second, .val (.long y5), .second, .val (.long y6), .second, .val (.int v6), .val (.int xnf), .val (.long v27), .second, .val (.ref wN), .unset, .unset, .unset, .unset, .unset, .unset, .unset, .unset, .unset, .unset, .unset, .unset, .unset, .unset] [(.ref b89), (.ref b89)])) _
        refine XS.aload X89.here hx rfl (hb hby at_294) rfl rfl ?_
        show Steps p.tables e below (T89.setTop (mkF m 296 #[.val (.int y1), .val (.int y2), .val (.int y3), .val (.long y4), .second, .val (.long y5), .second, .val (.long y6), .second, .val (.int v6), .val (.int xnf), .val (.long v27), .second, .val (.ref wN), .unset, .unset, .unset, .unset, .unset, .unset, .unset, .unset, .unset, .unset, .unset, .unset, .unset, .unset] [(.ref wN), (.ref b89), (.ref b89)])) _
        refine XS.iload X89.here hx rfl (hb hby at_296) rfl ?_
        show Steps p.tables e below (T89.setTop (mkF m 298 #[.val (.int y1), .val (.int y2), .val (.int y3), .val (.long y4), .second, .val (.long y5), .second, .val (.long y6), .second, .val (.int v6), .val (.int xnf), .val (.long v27), .second, .val (.ref wN), .unset, .unset, .unset, .unset, .unset, .unset, .unset, .unset, .unset, .unset, .unset, .unset, .unset, .unset] [(.int xnf), (.ref wN), (.ref b89), (.ref b89)])) _
        refine XS.iloadN X89.here hx rfl (hb hby at_298) rfl ?_
        show Steps p.tables e below (T89.setTop (mkF m 299 #[.val (.int y1), .val (.int y2), .val (.int y3), .val (.long y4), .second, .val (.long y5), .second, .val (.long y6), .second, .val (.int v6), .val (.int xnf), .val (.long v27), .second, .val (.ref wN), .unset, .unset, .unset, .unset, .unset, .unset, .unset, .unset, .unset, .unset, .unset, .unset, .unset, .unset] [(.int y3), (.int xnf), (.ref wN), (.ref b89), (.ref b89)])) _
        refine XS.lloadN X89.here hx rfl (hb hby at_299) rfl ?_
        show Steps p.tables e below (T89.setTop (mkF m 300 #[.val (.int y1), .val (.int y2), .val (.int y3), .val (.long y4), .second, .val (.long y5), .second, .val (.long y6), .second, .val (.int v6), .val (.int xnf), .val (.long v27), .second, .val (.ref wN), .unset, .unset, .unset, .unset, .unset, .unset, .unset, .unset, .unset, .unset, .unset, .unset, .unset, .unset] [(.long y4), (.int y3), (.int xnf), (.ref wN), (.ref b89), (.ref b89)])) _
        refine XS.lload X89.here hx rfl (hb hby at_300) rfl ?_
        show Steps p.tables e below (T89.setTop (mkF m 302 #[.val (.int y1), .val (.int y2), .val (.int y3), .val (.long y4), .second, .val (.long y5), .second, .val (.long y6), .second, .val (.int v6), .val (.int xnf), .val (.long v27), .second, .val (.ref wN), .unset, .unset, .unset, .unset, .unset, .unset, .unset, .unset, .unset, .unset, .unset, .unset, .unset, .unset] [(.long y5), (.long y4), (.int y3), (.int xnf), (.ref wN), (.ref b89), (.ref b89)])) _
        refine st104.trans ?_
        show Steps p.tables e below (T104.setTop (mkF m 305 #[.val (.int y1), .val (.int y2), .val (.int y3), .val (.long y4), .second, .val (.long y5), .second, .val (.long y6), .second, .val (.int v6), .val (.int xnf), .val (.long v27), .second, .val (.ref wN), .unset, .unset, .unset, .unset, .unset, .unset, .unset, .unset, .unset, .unset, .unset, .unset, .unset, .unset] [(.ref b89)])) _
        refine XS.lload X104.here hx rfl (hb hby at_305) rfl ?_
        show Steps p.tables e below (T104.setTop (mkF m 307 #[.val (.int y1), .val (.int y2), .val (.int y3), .val (.long y4), .second, .val (.long y5), .second, .val (.long y6), .second, .val (.int v6), .val (.int xnf), .val (.long v27), .second, .val (.ref wN), .unset, .unset, .unset, .unset, .unset, .unset, .unset, .unset, .unset, .unset, .unset, .unset, .unset, .unset] [(.long v27), (.ref b89)])) _
        refine st121.trans ?_
        show Steps p.tables e below (T121.setTop (mkF m 310 #[.val (.int y1), .val (.int y2), .val (.int y3), .val (.long y4), .second, .val (.long y5), .second, .val (.long y6), .second, .val (.int v6), .val (.int xnf), .val (.long v27), .second, .val (.ref wN), .unset, .unset, .unset, .unset, .unset, .unset, .unset, .unset, .unset, .unset, .unset, .unset, .unset, .unset] [(.ref b121xn)])) _
        refine XS.astore X121.here hx rfl (hb hby at_310) rfl rfl (l' := #[.val (.int y1), .val (.int y2), .val (.int y3), .val (.long y4), .second, .val (.long y5), .second, .val (.long y6), .second, .val (.int v6), .val (.int xnf), .val (.long v27), .second, .val (.ref wN), .val (.ref b121xn), .unset, .unset, .unset, .unset, .unset, .unset, .unset, .unset, .unset, .unset, .unset, .unset, .unset]) rfl ?_
        show Steps p.tables e below (T121.setTop (mkF m 312 #[.val (.int y1), .val (.int y2), .val (.int y3), .val (.long y4), .second, .val (.long y5), .second, .val (.long y6), .second, .val (.int v6), .val (.int xnf), .val (.long v27), .second, .val (.ref wN), .val (.ref b121xn), .unset, .unset, .unset, .unset, .unset, .unset, .unset, .unset, .unset, .unset, .unset, .unset, .unset] [])) _
        refine XS.aload X121.here hx rfl (hb hby at_312) rfl rfl ?_
        show Steps p.tables e below (T121.setTop (mkF m 314 #[.val (.int y1), .val (.int y2), .val (.int y3), .val (.long y4), .second, .val (.long y5), .second, .val (.long y6), .second, .val (.int v6), .val (.int xnf), .val (.long v27), .second, .val (.ref wN), .val (.ref b121xn), .unset, .unset, .unset, .unset, .unset, .unset, .unset, .unset, .unset, .unset, .unset, .unset, .unset] [(.ref b121xn)])) _
        refine st142.trans ?_
        show Steps p.tables e below (T142.setTop (mkF m 317 #[.val (.int y1), .val (.int y2), .val (.int y3), .val (.long y4), .second, .val (.long y5), .second, .val (.long y6), .second, .val (.int v6), .val (.int xnf), .val (.long v27), .second, .val (.ref wN), .val (.ref b121xn), .unset, .unset, .unset, .unset, .unset, .unset, .unset, .unset, .unset, .unset, .unset, .unset, .unset] [(.int (nar .boolean (0 : Int32)))])) _
        refine XS.iload X142.here hx rfl (hb hby at_317) rfl ?_
        show Steps p.tables e below (T142.setTop (mkF m 319 #[.val (.int y1), .val (.int y2), .val (.int y3), .val (.long y4), .second, .val (.long y5), .second, .val (.long y6), .second, .val (.int v6), .val (.int xnf), .val (.long v27), .second, .val (.ref wN), .val (.ref b121xn), .unset, .unset, .unset, .unset, .unset, .unset, .unset, .unset, .unset, .unset, .unset, .unset, .unset] [(.int v6), (.int (nar .boolean (0 : Int32)))])) _
        refine XS.iconst X142.here hx rfl (hb hby at_319) ?_
        show Steps p.tables e below (T142.setTop (mkF m 320 #[.val (.int y1), .val (.int y2), .val (.int y3), .val (.long y4), .second, .val (.long y5), .second, .val (.long y6), .second, .val (.int v6), .val (.int xnf), .val (.long v27), .second, .val (.ref wN), .val (.ref b121xn), .unset, .unset, .unset, .unset, .unset, .unset, .unset, .unset, .unset, .unset, .unset, .unset, .unset] [(.int (2 : Int32)), (.int v6), (.int (nar .boolean (0 : Int32)))])) _
        refine XS.icmpYes X142.here hx rfl (pc0 := 320) (pc' := 327) rfl (hb hby at_320) rfl (feq hd143).2 (by decide) (by decide) ?_
        show Steps p.tables e below (T142.setTop (mkF m 327 #[.val (.int y1), .val (.int y2), .val (.int y3), .val (.long y4), .second, .val (.long y5), .second, .val (.long y6), .second, .val (.int v6), .val (.int xnf), .val (.long v27), .second, .val (.ref wN), .val (.ref b121xn), .unset, .unset, .unset, .unset, .unset, .unset, .unset, .unset, .unset, .unset, .unset, .unset, .unset] [(.int (nar .boolean (0 : Int32)))])) _
        refine XS.iconst X142.here hx rfl (hb hby at_327) ?_
        show Steps p.tables e below (T142.setTop (mkF m 328 #[.val (.int y1), .val (.int y2), .val (.int y3), .val (.long y4), .second, .val (.long y5), .second, .val (.long y6), .second, .val (.int v6), .val (.int xnf), .val (.long v27), .second, .val (.ref wN), .val (.ref b121xn), .unset, .unset, .unset, .unset, .unset, .unset, .unset, .unset, .unset, .unset, .unset, .unset, .unset] [(.int (0 : Int32)), (.int (nar .boolean (0 : Int32)))])) _
        refine XS.icmpNo X142.here hx rfl (hb hby at_328) rfl (teq hd144).2 ?_
        show Steps p.tables e below (T142.setTop (mkF m 331 #[.val (.int y1), .val (.int y2), .val (.int y3), .val (.long y4), .second, .val (.long y5), .second, .val (.long y6), .second, .val (.int v6), .val (.int xnf), .val (.long v27), .second, .val (.ref wN), .val (.ref b121xn), .unset, .unset, .unset, .unset, .unset, .unset, .unset, .unset, .unset, .unset, .unset, .unset, .unset] [])) _
        refine XS.aload X142.here hx rfl (hb hby at_331) rfl rfl ?_
        show Steps p.tables e below (T142.setTop (mkF m 333 #[.val (.int y1), .val (.int y2), .val (.int y3), .val (.long y4), .second, .val (.long y5), .second, .val (.long y6), .second, .val (.int v6), .val (.int xnf), .val (.long v27), .second, .val (.ref wN), .val (.ref b121xn), .unset, .unset, .unset, .unset, .unset, .unset, .unset, .unset, .unset, .unset, .unset, .unset, .unset] [(.ref b121xn)])) _
        refine st145.trans ?_
        show Steps p.tables e below (T145.setTop (mkF m 336 #[.val (.int y1), .val (.int y2), .val (.int y3), .val (.long y4), .second, .val (.long y5), .second, .val (.long y6), .second, .val (.int v6), .val (.int xnf), .val (.long v27), .second, .val (.ref wN), .val (.ref b121xn), .unset, .unset, .unset, .unset, .unset, .unset, .unset, .unset, .unset, .unset, .unset, .unset, .unset] [(.long y5)])) _
        refine XS.lload X145.here hx rfl (hb hby at_336) rfl ?_
        show Steps p.tables e below (T145.setTop (mkF m 338 #[.val (.int y1), .val (.int y2), .val (.int y3), .val (.long y4), .second, .val (.long y5), .second, .val (.long y6), .second, .val (.int v6), .val (.int xnf), .val (.long v27), .second, .val (.ref wN), .val (.ref b121xn), .unset, .unset, .unset, .unset, .unset, .unset, .unset, .unset, .unset, .unset, .unset, .unset, .unset] [(.long y5), (.long y5)])) _
        refine XS.lcmp X145.here hx rfl (hb hby at_338) rfl ?_
        show Steps p.tables e below (T145.setTop (mkF m 339 #[.val (.int y1), .val (.int y2), .val (.int y3), .val (.long y4), .second, .val (.long y5), .second, .val (.long y6), .second, .val (.int v6), .val (.int xnf), .val (.long v27), .second, .val (.ref wN), .val (.ref b121xn), .unset, .unset, .unset, .unset, .unset, .unset, .unset, .unset, .unset, .unset, .unset, .unset, .unset] [(.int (lcmpW y5 y5))])) _
        refine XS.ifNo X145.here hx rfl (hb hby at_339) rfl ((if0 _ _).trans (teq ((lw_eq y5 y5).mpr rfl)).2) ?_
        show Steps p.tables e below (T145.setTop (mkF m 342 #[.val (.int y1), .val (.int y2), .val (.int y3), .val (.long y4), .second, .val (.long y5), .second, .val (.long y6), .second, .val (.int v6), .val (.int xnf), .val (.long v27), .second, .val (.ref wN), .val (.ref b121xn), .unset, .unset, .unset, .unset, .unset, .unset, .unset, .unset, .unset, .unset, .unset, .unset, .unset] [])) _
        refine XS.aload X145.here hx rfl (hb hby at_342) rfl rfl ?_
        show Steps p.tables e below (T145.setTop (mkF m 344 #[.val (.int y1), .val (.int y2), .val (.int y3), .val (.long y4), .second, .val (.long y5), .second, .val (.long y6), .second, .val (.int v6), .val (.int xnf), .val (.long v27), .second, .val (.ref wN), .val (.ref b121xn), .unset, .unset, .unset, .unset, .unset, .unset, .unset, .unset, .unset, .unset, .unset, .unset, .unset] [(.ref b121xn)])) _
        refine st146.trans ?_
        show Steps p.tables e below (T146.setTop (mkF m 347 #[.val (.int y1), .val (.int y2), .val (.int y3), .val (.long y4), .second, .val (.long y5), .second, .val (.long y6), .second, .val (.int v6), .val (.int xnf), .val (.long v27), .second, .val (.ref wN), .val (.ref b121xn), .unset, .unset, .unset, .unset, .unset, .unset, .unset, .unset, .unset, .unset, .unset, .unset, .unset] [(.long (0 : Int64))])) _
        refine XS.lconst X146.here hx rfl (hb hby at_347) ?_
        show Steps p.tables e below (T146.setTop (mkF m 348 #[.val (.int y1), .val (.int y2), .val (.int y3), .val (.long y4), .second, .val (.long y5), .second, .val (.long y6), .second, .val (.int v6), .val (.int xnf), .val (.long v27), .second, .val (.ref wN), .val (.ref b121xn), .unset, .unset, .unset, .unset, .unset, .unset, .unset, .unset, .unset, .unset, .unset, .unset, .unset] [(.long (0 : Int64)), (.long (0 : Int64))])) _
        refine XS.lcmp X146.here hx rfl (hb hby at_348) rfl ?_
        show Steps p.tables e below (T146.setTop (mkF m 349 #[.val (.int y1), .val (.int y2), .val (.int y3), .val (.long y4), .second, .val (.long y5), .second, .val (.long y6), .second, .val (.int v6), .val (.int xnf), .val (.long v27), .second, .val (.ref wN), .val (.ref b121xn), .unset, .unset, .unset, .unset, .unset, .unset, .unset, .unset, .unset, .unset, .unset, .unset, .unset] [(.int (lcmpW (0 : Int64) (0 : Int64)))])) _
        refine XS.ifNo X146.here hx rfl (hb hby at_349) rfl ((if0 _ _).trans (teq ((lw_eq (0 : Int64) (0 : Int64)).mpr rfl)).2) ?_
        show Steps p.tables e below (T146.setTop (mkF m 352 #[.val (.int y1), .val (.int y2), .val (.int y3), .val (.long y4), .second, .val (.long y5), .second, .val (.long y6), .second, .val (.int v6), .val (.int xnf), .val (.long v27), .second, .val (.ref wN), .val (.ref b121xn), .unset, .unset, .unset, .unset, .unset, .unset, .unset, .unset, .unset, .unset, .unset, .unset, .unset] [])) _
        refine XS.aload X146.here hx rfl (hb hby at_352) rfl rfl ?_
        show Steps p.tables e below (T146.setTop (mkF m 354 #[.val (.int y1), .val (.int y2), .val (.int y3), .val (.long y4), .second, .val (.long y5), .second, .val (.long y6), .second, .val (.int v6), .val (.int xnf), .val (.long v27), .second, .val (.ref wN), .val (.ref b121xn), .unset, .unset, .unset, .unset, .unset, .unset, .unset, .unset, .unset, .unset, .unset, .unset, .unset] [(.ref b121xn)])) _
        refine st147.trans ?_
        show Steps p.tables e below (T147.setTop (mkF m 357 #[.val (.int y1), .val (.int y2), .val (.int y3), .val (.long y4), .second, .val (.long y5), .second, .val (.long y6), .second, .val (.int v6), .val (.int xnf), .val (.long v27), .second, .val (.ref wN), .val (.ref b121xn), .unset, .unset, .unset, .unset, .unset, .unset, .unset, .unset, .unset, .unset, .unset, .unset, .unset] [(.int y3)])) _
        refine XS.iloadN X147.here hx rfl (hb hby at_357) rfl ?_
        show Steps p.tables e below (T147.setTop (mkF m 358 #[.val (.int y1), .val (.int y2), .val (.int y3), .val (.long y4), .second, .val (.long y5), .second, .val (.long y6), .second, .val (.int v6), .val (.int xnf), .val (.long v27), .second, .val (.ref wN), .val (.ref b121xn), .unset, .unset, .unset, .unset, .unset, .unset, .unset, .unset, .unset, .unset, .unset, .unset, .unset] [(.int y3), (.int y3)])) _
        refine XS.icmpNo X147.here hx rfl (hb hby at_358) rfl (teq rfl).2 ?_
        show Steps p.tables e below (T147.setTop (mkF m 361 #[.val (.int y1), .val (.int y2), .val (.int y3), .val (.long y4), .second, .val (.long y5), .second, .val (.long y6), .second, .val (.int v6), .val (.int xnf), .val (.long v27), .second, .val (.ref wN), .val (.ref b121xn), .unset, .unset, .unset, .unset, .unset, .unset, .unset, .unset, .unset, .unset, .unset, .unset, .unset] [])) _
        refine XS.iconst X147.here hx rfl (hb hby at_361) ?_
        show Steps p.tables e below (T147.setTop (mkF m 362 #[.val (.int y1), .val (.int y2), .val (.int y3), .val (.long y4), .second, .val (.long y5), .second, .val (.long y6), .second, .val (.int v6), .val (.int xnf), .val (.long v27), .second, .val (.ref wN), .val (.ref b121xn), .unset, .unset, .unset, .unset, .unset, .unset, .unset, .unset, .unset, .unset, .unset, .unset, .unset] [(.int (1 : Int32))])) _
        refine XS.goto X147.here hx rfl (pc0 := 362) (pc' := 366) rfl (hb hby at_362) (by decide) (by decide) ?_
        show Steps p.tables e below (T147.setTop (mkF m 366 #[.val (.int y1), .val (.int y2), .val (.int y3), .val (.long y4), .second, .val (.long y5), .second, .val (.long y6), .second, .val (.int v6), .val (.int xnf), .val (.long v27), .second, .val (.ref wN), .val (.ref b121xn), .unset, .unset, .unset, .unset, .unset, .unset, .unset, .unset, .unset, .unset, .unset, .unset, .unset] [(.int (1 : Int32))])) _
        exact retN X147 hx (t := .boolean) Bd.returns (by simp) (hb hby at_366) hr
      · show own_Q0 Z y1 y2 y3 y4 y5 y6 wI wN wP h0 n0 _ T147.heap _
        rw [eh147]
        exact ⟨rfl, N147⟩
    · obtain ⟨T148, X148, e148, st148⟩ := getS2 X0 hx hZ hown (host := "") (Or.inl (hw _ (List.mem_of_getElem? (i := 86) rfl))) Via.refl e0 S_PRE (g := (mkF m 285 #[.val (.int y1), .val (.int y2), .val (.int y3), .val (.long y4), .second, .val (.long y5), .second, .val (.long y6), .second, .val (.int v6), .val (.int xnf), .val (.long v27), .second, .unset, .unset, .unset, .unset, .unset, .unset, .unset, .unset, .unset, .unset, .unset, .unset, .unset, .unset, .unset] [])) rfl (hb hby at_285)
      obtain ⟨T149, h149, X149, e149, E149, A149, D149, -, st149⟩ := newO X148 hx hZ hown (hw _ (List.mem_of_getElem? (i := 9) rfl)) (hw _ (List.mem_of_getElem? (i := 10) rfl)) (hw _ (List.mem_of_getElem? (i := 11) rfl)) e148 (g := (mkF m 290 #[.val (.int y1), .val (.int y2), .val (.int y3), .val (.long y4), .second, .val (.long y5), .second, .val (.long y6), .second, .val (.int v6), .val (.int xnf), .val (.long v27), .second, .val (.ref wP), .unset, .unset, .unset, .unset, .unset, .unset, .unset, .unset, .unset, .unset, .unset, .unset, .unset, .unset] [])) rfl (hb hby at_290) (by decide) (by decide)
      obtain ⟨b149, g149⟩ : ∃ z, z = h0.size := ⟨_, rfl⟩
      rw [← g149] at A149 D149 st149
      have ne_wI_b149 : wI ≠ b149 := Nat.ne_of_lt (Nat.lt_of_lt_of_le F_ordinal_wI.lt (Nat.le_of_eq g149.symm))
      have ne_wN_b149 : wN ≠ b149 := Nat.ne_of_lt (Nat.lt_of_lt_of_le F_ordinal_wN.lt (Nat.le_of_eq g149.symm))
      have ne_wP_b149 : wP ≠ b149 := Nat.ne_of_lt (Nat.lt_of_lt_of_le F_ordinal_wP.lt (Nat.le_of_eq g149.symm))
      have g_b149 : n0 ≤ b149 := Nat.le_trans Z0 (Nat.le_of_eq g149.symm)
      have sz_b149 : h0.size ≤ b149 := Nat.le_trans K0.1 (Nat.le_of_eq g149.symm)
      have K149 : Keep h0 h149 [] := K0.ext E149
      have F150 : Sta Z h149 "com/example/tracebook/tracebook/model/Paging$Type" "INIT" "Lcom/example/tracebook/tracebook/model/Paging$Type;" (.ref wI) := S_INIT.ext E149
      have F151 : Sta Z h149 "com/example/tracebook/tracebook/model/Paging$Type" "NEXT" "Lcom/example/tracebook/tracebook/model/Paging$Type;" (.ref wN) := S_NEXT.ext E149
      have F152 : Sta Z h149 "com/example/tracebook/tracebook/model/Paging$Type" "PRE" "Lcom/example/tracebook/tracebook/model/Paging$Type;" (.ref wP) := S_PRE.ext E149
      have F153 : Exa Z h149 wI "com/example/tracebook/tracebook/model/Paging$Type" := E_wI.ext E149
      have F154 : Exa Z h149 wN "com/example/tracebook/tracebook/model/Paging$Type" := E_wN.ext E149
      have F155 : Exa Z h149 wP "com/example/tracebook/tracebook/model/Paging$Type" := E_wP.ext E149
      have F156 : Fld Z h149 wI "java/lang/Enum" "ordinal" "I" (.int (0 : Int32)) := F_ordinal_wI.ext E149
      have F157 : Fld Z h149 wN "java/lang/Enum" "ordinal" "I" (.int (1 : Int32)) := F_ordinal_wN.ext E149
      have F158 : Fld Z h149 wP "java/lang/Enum" "ordinal" "I" (.int (2 : Int32)) := F_ordinal_wP.ext E149
      have Z149 : n0 ≤ h149.size := Nat.le_trans Z0 E149.1
      have F159 : Fld Z h149 b149 "com/example/tracebook/tracebook/model/Paging" "type" "Lcom/example/tracebook/tracebook/model/Paging$Type;" .null := D149 (Or.inr (hw _ (List.mem_of_getElem? (i := 27) rfl))) (ty := (.object "com/example/tracebook/tracebook/model/Paging$Type")) (by decide)
      have F160 : Fld Z h149 b149 "com/example/tracebook/tracebook/model/Paging" "newestFirst" "Z" (.int (0 : Int32)) := D149 (Or.inr (hw _ (List.mem_of_getElem? (i := 29) rfl))) (ty := .boolean) (by decide)
      have F161 : Fld Z h149 b149 "com/example/tracebook/tracebook/model/Paging" "pageSize" "I" (.int (0 : Int32)) := D149 (Or.inr (hw _ (List.mem_of_getElem? (i := 31) rfl))) (ty := .int) (by decide)
      have F162 : Fld Z h149 b149 "com/example/tracebook/tracebook/model/Paging" "pageIndex" "J" (.long (0 : Int64)) := D149 (Or.inr (hw _ (List.mem_of_getElem? (i := 33) rfl))) (ty := .long) (by decide)
      have F163 : Fld Z h149 b149 "com/example/tracebook/tracebook/model/Paging" "recordTime" "J" (.long (0 : Int64)) := D149 (Or.inr (hw _ (List.mem_of_getElem? (i := 35) rfl))) (ty := .long) (by decide)
      obtain ⟨_, _, ⟨T164, L164, k164, n164⟩, -, X164, ⟨Lc164, hQ164, l164, y164, z164⟩, st164⟩ := X149.specialBack hx (y := (⟨"com/example/tracebook/tracebook/model/Paging", "<init>", "(Lcom/example/tracebook/tracebook/model/Paging$Type;ZIJJ)V"⟩ : MethodName)) rfl hown (mvT hZ (hw _ (List.mem_of_getElem? (i := 15) rfl))) (mvT hZ (hw _ (List.mem_of_getElem? (i := 16) rfl))) (mvT hZ (hw _ (List.mem_of_getElem? (i := 17) rfl))) (by decide) (backOf (W := 1) (own_rm3 l Z a0 hw [] b149 wP xnf y3 y4 y5 h149 n0 Z149 A149 F159 F160 F161 F162 F163 g_b149) hZ (hw _ (List.mem_of_getElem? (i := 17) rfl)) (hw _ (List.mem_of_getElem? (i := 11) rfl)) (by decide) (by decide)) (g := (mkF m 302 #[.val (.int y1), .val (.int y2), .val (.int y3), .val (.long y4), .second, .val (.long y5), .second, .val (.long y6), .second, .val (.int v6), .val (.int xnf), .val (.long v27), .second, .val (.ref wP), .unset, .unset, .unset, .unset, .unset, .unset, .unset, .unset, .unset, .unset, .unset, .unset, .unset, .unset] [(.long y5), (.long y4), (.int y3), (.int xnf), (.ref wP), (.ref b149), (.ref b149)])) rfl (by rw [hml]; rfl) (Steps.refl _) (a := b149) (argsL := [(.ref wP), (.int xnf), (.int y3), (.long y4), (.long y5)]) (rest := [(.ref b149)]) (lenOf own_pd5 rfl) rfl (by show 2 * 0 + _ ≤ _; exact Nat.le_of_eq rfl) (hb hby at_302) (fun _ _ => ⟨rfl, e149, (by decide : 1 + 0 ≤ _), (by decide : 5 + 0 ≤ _)⟩)
      dsimp only [Pt.U, Pt.locs, Pt.cells, Pt.slots] at X164 l164 y164 z164 st164 hQ164
      subst l164 y164 z164
      obtain ⟨rfl, N164q, K164q, F165, F166, F167, F168, F169, F170⟩ := hQ164
      have K164 := K164q
      have KK164 : Keep h0 T164.heap [] := K149.trans K164 (allS (Or.inr sz_b149) all0)
      have F171 : Sta Z T164.heap "com/example/tracebook/tracebook/model/Paging$Type" "INIT" "Lcom/example/tracebook/tracebook/model/Paging$Type;" (.ref wI) := S_INIT.ext (own_ext KK164)
      have F172 : Sta Z T164.heap "com/example/tracebook/tracebook/model/Paging$Type" "NEXT" "Lcom/example/tracebook/tracebook/model/Paging$Type;" (.ref wN) := S_NEXT.ext (own_ext KK164)
      have F173 : Sta Z T164.heap "com/example/tracebook/tracebook/model/Paging$Type" "PRE" "Lcom/example/tracebook/tracebook/model/Paging$Type;" (.ref wP) := S_PRE.ext (own_ext KK164)
      have F174 : Exa Z T164.heap wI "com/example/tracebook/tracebook/model/Paging$Type" := F153.keep K164
      have F175 : Exa Z T164.heap wN "com/example/tracebook/tracebook/model/Paging$Type" := F154.keep K164
      have F176 : Exa Z T164.heap wP "com/example/tracebook/tracebook/model/Paging$Type" := F155.keep K164
      have F177 : Fld Z T164.heap wI "java/lang/Enum" "ordinal" "I" (.int (0 : Int32)) := F156.keep K164 (ninS ne_wI_b149 nin0)
      have F178 : Fld Z T164.heap wN "java/lang/Enum" "ordinal" "I" (.int (1 : Int32)) := F157.keep K164 (ninS ne_wN_b149 nin0)
      have F179 : Fld Z T164.heap wP "java/lang/Enum" "ordinal" "I" (.int (2 : Int32)) := F158.keep K164 (ninS ne_wP_b149 nin0)
      have F180 : Exa Z T164.heap b149 "com/example/tracebook/tracebook/model/Paging" := A149.keep K164
      have Z164 : n0 ≤ T164.heap.size := Nat.le_trans Z149 K164.1
      have N164 := Fr.app N0 N164q
      obtain ⟨cq181, kq181, q181a, q181b, q181c⟩ := isOf hZ rfl F165
      obtain ⟨_, _, ⟨T181, L181, k181, n181⟩, -, X181, ⟨Lc181, hQ181, l181, y181, z181⟩, st181⟩ := X164.virtualBack hx (y := (⟨"com/example/tracebook/tracebook/model/Paging", "walk", "(J)Lcom/example/tracebook/tracebook/model/Paging$Walk;"⟩ : MethodName)) (z := (⟨"com/example/tracebook/tracebook/model/Paging", "walk", "(J)Lcom/example/tracebook/tracebook/model/Paging$Walk;"⟩ : MethodName)) hown (mvT hZ (hw _ (List.mem_of_getElem? (i := 36) rfl))) (mvT hZ (hw _ (List.mem_of_getElem? (i := 37) rfl))) (notFace_of_selects (args := #[]) (mvT hZ (hw _ (List.mem_of_getElem? (i := 39) rfl)))) (mvT hZ (hw _ (List.mem_of_getElem? (i := 39) rfl))) (mvT hZ (hw _ (List.mem_of_getElem? (i := 38) rfl))) (by decide) (backOf (W := 0) (own_rm6_2 l Z a0 hw [] b149 v27 wP y3 y4 y5 T164.heap n0 Z164 F166 F176 F179 F168 F169 F170) hZ (hw _ (List.mem_of_getElem? (i := 40) rfl)) (hw _ (List.mem_of_getElem? (i := 11) rfl)) (by decide) (by decide)) q181a q181c (g := (mkF m 307 #[.val (.int y1), .val (.int y2), .val (.int y3), .val (.long y4), .second, .val (.long y5), .second, .val (.long y6), .second, .val (.int v6), .val (.int xnf), .val (.long v27), .second, .val (.ref wP), .unset, .unset, .unset, .unset, .unset, .unset, .unset, .unset, .unset, .unset, .unset, .unset, .unset, .unset] [(.long v27), (.ref b149)])) rfl (by rw [hml]; rfl) (Steps.refl _) (argsL := [(.long v27)]) (rest := []) (lenOf own_pd6 rfl) rfl (by show 2 * 0 + _ ≤ _; exact Nat.le_of_eq rfl) (hb hby at_307) (fun _ _ => ⟨rfl, rfl, (by decide : 1 + 1 ≤ _), (by decide : 5 + 4 ≤ _)⟩)
      dsimp only [Pt.U, Pt.locs, Pt.cells, Pt.slots] at X181 l181 y181 z181 st181 hQ181
      subst l181 y181 z181
      obtain ⟨b181xn, rfl, N181q, K181q, sz0_b181xn, lt_b181xn, F182, F183, F184, F185, F186⟩ := hQ181
      have K181 := K181q
      have ne_wI_b181xn : wI ≠ b181xn := Nat.ne_of_lt (Nat.lt_of_lt_of_le F177.lt sz0_b181xn)
      have ne_wN_b181xn : wN ≠ b181xn := Nat.ne_of_lt (Nat.lt_of_lt_of_le F178.lt sz0_b181xn)
      have ne_wP_b181xn : wP ≠ b181xn := Nat.ne_of_lt (Nat.lt_of_lt_of_le F179.lt sz0_b181xn)
      have ne_b149_b181xn : b149 ≠ b181xn := Nat.ne_of_lt (Nat.lt_of_lt_of_le F170.lt sz0_b181xn)
      have g_b181xn : n0 ≤ b181xn := Nat.le_trans Z164 sz0_b181xn
      have sz_b181xn : h0.size ≤ b181xn := Nat.le_trans KK164.1 sz0_b181xn
      have KK181 : Keep h0 T181.heap [] := KK164.trans K181 all0
      have F187 : Sta Z T181.heap "com/example/tracebook/tracebook/model/Paging$Type" "INIT" "Lcom/example/tracebook/tracebook/model/Paging$Type;" (.ref wI) := S_INIT.ext (own_ext KK181)
      have F188 : Sta Z T181.heap "com/example/tracebook/tracebook/model/Paging$Type" "NEXT" "Lcom/example/tracebook/tracebook/model/Paging$Type;" (.ref wN) := S_NEXT.ext (own_ext KK181)
      have F189 : Sta Z T181.heap "com/example/tracebook/tracebook/model/Paging$Type" "PRE" "Lcom/example/tracebook/tracebook/model/Paging$Type;" (.ref wP) := S_PRE.ext (own_ext KK181)
      have F190 : Exa Z T181.heap wI "com/example/tracebook/tracebook/model/Paging$Type" := F174.keep K181
      have F191 : Exa Z T181.heap wN "com/example/tracebook/tracebook/model/Paging$Type" := F175.keep K181
      have F192 : Exa Z T181.heap wP "com/example/tracebook/tracebook/model/Paging$Type" := F176.keep K181
      have F193 : Fld Z T181.heap wI "java/lang/Enum" "ordinal" "I" (.int (0 : Int32)) := F177.keep K181 nin0
      have F194 : Fld Z T181.heap wN "java/lang/Enum" "ordinal" "I" (.int (1 : Int32)) := F178.keep K181 nin0
      have F195 : Fld Z T181.heap wP "java/lang/Enum" "ordinal" "I" (.int (2 : Int32)) := F179.keep K181 nin0
      have F196 : Exa Z T181.heap b149 "com/example/tracebook/tracebook/model/Paging" := F165.keep K181
      have F197 : Fld Z T181.heap b149 "com/example/tracebook/tracebook/model/Paging" "type" "Lcom/example/tracebook/tracebook/model/Paging$Type;" (.ref wP) := F166.keep K181 nin0
      have F198 : Fld Z T181.heap b149 "com/example/tracebook/tracebook/model/Paging" "newestFirst" "Z" (.int (xnf &&& 1)) := F167.keep K181 nin0
      have F199 : Fld Z T181.heap b149 "com/example/tracebook/tracebook/model/Paging" "pageSize" "I" (.int y3) := F168.keep K181 nin0
      have F200 : Fld Z T181.heap b149 "com/example/tracebook/tracebook/model/Paging" "pageIndex" "J" (.long y4) := F169.keep K181 nin0
      have F201 : Fld Z T181.heap b149 "com/example/tracebook/tracebook/model/Paging" "recordTime" "J" (.long y5) := F170.keep K181 nin0
      have Z181 : n0 ≤ T181.heap.size := Nat.le_trans Z164 K181.1
      have N181 := Fr.app N164 N181q
      obtain ⟨cq202, kq202, q202a, q202b, q202c⟩ := isOf hZ rfl F182
      obtain ⟨_, _, ⟨T202, L202, k202, n202⟩, -, X202, ⟨Lc202, hQ202, l202, y202, z202⟩, st202⟩ := X181.virtualBack hx (y := (⟨"com/example/tracebook/tracebook/model/Paging$Walk", "backward", "()Z"⟩ : MethodName)) (z := (⟨"com/example/tracebook/tracebook/model/Paging$Walk", "backward", "()Z"⟩ : MethodName)) hown (mvT hZ (hw _ (List.mem_of_getElem? (i := 66) rfl))) (mvT hZ (hw _ (List.mem_of_getElem? (i := 67) rfl))) (notFace_of_selects (args := #[]) (mvT hZ (hw _ (List.mem_of_getElem? (i := 69) rfl)))) (mvT hZ (hw _ (List.mem_of_getElem? (i := 69) rfl))) (mvT hZ (hw _ (List.mem_of_getElem? (i := 68) rfl))) (by decide) (backOf (W := 0) (own_rm9 l Z a0 hw [] b181xn (1 : Int32) T181.heap n0 Z181 F183) hZ (hw _ (List.mem_of_getElem? (i := 70) rfl)) (hw _ (List.mem_of_getElem? (i := 53) rfl)) (by decide) (by decide)) q202a q202c (g := (mkF m 314 #[.val (.int y1), .val (.int y2), .val (.int y3), .val (.long y4), .second, .val (.long y5), .second, .val (.long y6), .second, .val (.int v6), .val (.int xnf), .val (.long v27), .second, .val (.ref wP), .val (.ref b181xn), .unset, .unset, .unset, .unset, .unset, .unset, .unset, .unset, .unset, .unset, .unset, .unset, .unset] [(.ref b181xn)])) rfl (by rw [hml]; rfl) (Steps.refl _) (argsL := []) (rest := []) (lenOf own_pd7 rfl) rfl (by show 2 * 0 + _ ≤ _; exact Nat.le_of_eq rfl) (hb hby at_314) (fun _ _ => ⟨rfl, rfl, (by decide : 2 + 0 ≤ _), (by decide : 9 + 0 ≤ _)⟩)
      dsimp only [Pt.U, Pt.locs, Pt.cells, Pt.slots] at X202 l202 y202 z202 st202 hQ202
      subst l202 y202 z202
      obtain ⟨rfl, N202q, eh202⟩ := hQ202
      have N202 := Fr.app N181 N202q
      have hd203 : v6 = (2 : Int32) := (by rw [hv6] at hc31 hc276 ⊢; exact own_three _ hc31 hc276)
      have hd204 : (nar .boolean (1 : Int32)) = (1 : Int32) := (by rfl)
      obtain ⟨cq205, kq205, q205a, q205b, q205c⟩ := isOf hZ eh202 F182
      obtain ⟨_, _, ⟨T205, L205, k205, n205⟩, -, X205, ⟨Lc205, hQ205, l205, y205, z205⟩, st205⟩ := X202.virtualBack hx (y := (⟨"com/example/tracebook/tracebook/model/Paging$Walk", "from", "()J"⟩ : MethodName)) (z := (⟨"com/example/tracebook/tracebook/model/Paging$Walk", "from", "()J"⟩ : MethodName)) hown (mvT hZ (hw _ (List.mem_of_getElem? (i := 71) rfl))) (mvT hZ (hw _ (List.mem_of_getElem? (i := 72) rfl))) (notFace_of_selects (args := #[]) (mvT hZ (hw _ (List.mem_of_getElem? (i := 74) rfl)))) (mvT hZ (hw _ (List.mem_of_getElem? (i := 74) rfl))) (mvT hZ (hw _ (List.mem_of_getElem? (i := 73) rfl))) (by decide) (backOf (W := 0) (own_rm10 l Z a0 hw [] b181xn y5 T181.heap n0 Z181 F184) hZ (hw _ (List.mem_of_getElem? (i := 75) rfl)) (hw _ (List.mem_of_getElem? (i := 53) rfl)) (by decide) (by decide)) q205a q205c (g := (mkF m 333 #[.val (.int y1), .val (.int y2), .val (.int y3), .val (.long y4), .second, .val (.long y5), .second, .val (.long y6), .second, .val (.int v6), .val (.int xnf), .val (.long v27), .second, .val (.ref wP), .val (.ref b181xn), .unset, .unset, .unset, .unset, .unset, .unset, .unset, .unset, .unset, .unset, .unset, .unset, .unset] [(.ref b181xn)])) rfl (by rw [hml]; rfl) (Steps.refl _) (argsL := []) (rest := []) (lenOf own_pd8 rfl) rfl (by show 2 * 0 + _ ≤ _; exact Nat.le_of_eq rfl) (hb hby at_333) (fun _ _ => ⟨rfl, eh202, (by decide : 2 + 0 ≤ _), (by decide : 9 + 0 ≤ _)⟩)
      dsimp only [Pt.U, Pt.locs, Pt.cells, Pt.slots] at X205 l205 y205 z205 st205 hQ205
      subst l205 y205 z205
      obtain ⟨rfl, N205q, eh205⟩ := hQ205
      have N205 := Fr.app N202 N205q
      obtain ⟨cq206, kq206, q206a, q206b, q206c⟩ := isOf hZ eh205 F182
      obtain ⟨_, _, ⟨T206, L206, k206, n206⟩, -, X206, ⟨Lc206, hQ206, l206, y206, z206⟩, st206⟩ := X205.virtualBack hx (y := (⟨"com/example/tracebook/tracebook/model/Paging$Walk", "skip", "()J"⟩ : MethodName)) (z := (⟨"com/example/tracebook/tracebook/model/Paging$Walk", "skip", "()J"⟩ : MethodName)) hown (mvT hZ (hw _ (List.mem_of_getElem? (i := 76) rfl))) (mvT hZ (hw _ (List.mem_of_getElem? (i := 77) rfl))) (notFace_of_selects (args := #[]) (mvT hZ (hw _ (List.mem_of_getElem? (i := 79) rfl)))) (mvT hZ (hw _ (List.mem_of_getElem? (i := 79) rfl))) (mvT hZ (hw _ (List.mem_of_getElem? (i := 78) rfl))) (by decide) (backOf (W := 0) (own_rm11 l Z a0 hw [] b181xn (0 : Int64) T181.heap n0 Z181 F185) hZ (hw _ (List.mem_of_getElem? (i := 80) rfl)) (hw _ (List.mem_of_getElem? (i := 53) rfl)) (by decide) (by decide)) q206a q206c (g := (mkF m 344 #[.val (.int y1), .val (.int y2), .val (.int y3), .val (.long y4), .second, .val (.long y5), .second, .val (.long y6), .second, .val (.int v6), .val (.int xnf), .val (.long v27), .second, .val (.ref wP), .val (.ref b181xn), .unset, .unset, .unset, .unset, .unset, .unset, .unset, .unset, .unset, .unset, .unset, .unset, .unset] [(.ref b181xn)])) rfl (by rw [hml]; rfl) (Steps.refl _) (argsL := []) (rest := []) (lenOf own_pd8 rfl) rfl (by show 2 * 0 + _ ≤ _; exact Nat.le_of_eq rfl) (hb hby at_344) (fun _ _ => ⟨rfl, eh205, (by decide : 2 + 0 ≤ _), (by decide : 9 + 0 ≤ _)⟩)
      dsimp only [Pt.U, Pt.locs, Pt.cells, Pt.slots] at X206 l206 y206 z206 st206 hQ206
      subst l206 y206 z206
      obtain ⟨rfl, N206q, eh206⟩ := hQ206
      have N206 := Fr.app N205 N206q
      obtain ⟨cq207, kq207, q207a, q207b, q207c⟩ := isOf hZ eh206 F182
      obtain ⟨_, _, ⟨T207, L207, k207, n207⟩, -, X207, ⟨Lc207, hQ207, l207, y207, z207⟩, st207⟩ := X206.virtualBack hx (y := (⟨"com/example/tracebook/tracebook/model/Paging$Walk", "take", "()I"⟩ : MethodName)) (z := (⟨"com/example/tracebook/tracebook/model/Paging$Walk", "take", "()I"⟩ : MethodName)) hown (mvT hZ (hw _ (List.mem_of_getElem? (i := 81) rfl))) (mvT hZ (hw _ (List.mem_of_getElem? (i := 82) rfl))) (notFace_of_selects (args := #[]) (mvT hZ (hw _ (List.mem_of_getElem? (i := 84) rfl)))) (mvT hZ (hw _ (List.mem_of_getElem? (i := 84) rfl))) (mvT hZ (hw _ (List.mem_of_getElem? (i := 83) rfl))) (by decide) (backOf (W := 0) (own_rm12 l Z a0 hw [] b181xn y3 T181.heap n0 Z181 F186) hZ (hw _ (List.mem_of_getElem? (i := 85) rfl)) (hw _ (List.mem_of_getElem? (i := 53) rfl)) (by decide) (by decide)) q207a q207c (g := (mkF m 354 #[.val (.int y1), .val (.int y2), .val (.int y3), .val (.long y4), .second, .val (.long y5), .second, .val (.long y6), .second, .val (.int v6), .val (.int xnf), .val (.long v27), .second, .val (.ref wP), .val (.ref b181xn), .unset, .unset, .unset, .unset, .unset, .unset, .unset, .unset, .unset, .unset, .unset, .unset, .unset] [(.ref b181xn)])) rfl (by rw [hml]; rfl) (Steps.refl _) (argsL := []) (rest := []) (lenOf own_pd1 rfl) rfl (by show 2 * 0 + _ ≤ _; exact Nat.le_of_eq rfl) (hb hby at_354) (fun _ _ => ⟨rfl, eh206, (by decide : 2 + 0 ≤ _), (by decide : 9 + 0 ≤ _)⟩)
      dsimp only [Pt.U, Pt.locs, Pt.cells, Pt.slots] at X207 l207 y207 z207 st207 hQ207
      subst l207 y207 z207
      obtain ⟨rfl, N207q, eh207⟩ := hQ207
      have N207 := Fr.app N206 N207q
      obtain ⟨fs, hr, hrun, hended, hW, hsame⟩ := X207.leave (v := some (.int (1 : Int32))) (fun h => by rw [Bd.returns] at h; cases h)
      refine ⟨_, _, pre87 _ ?_, hrun, hended, _, _, rfl, ?_, ⟨_, rfl⟩, hW, hsame.mono (by decide) (by decide)⟩
      · show Steps p.tables e below (s₁.setTop (mkF m 276 #[.val (.int y1), .val (.int y2), .val (.int y3), .val (.long y4), .second, .val (.long y5), .second, .val (.long y6), .second, .val (.int v6), .val (.int xnf), .val (.long v27), .second, .unset, .unset, .unset, .unset, .unset, .unset, .unset, .unset, .unset, .unset, .unset, .unset, .unset, .unset, .unset] [(.int (1 : Int32)), (.int v6)])) _
        refine XS.icmpYes X0.here hx rfl (pc0 := 276) (pc' := 285) rfl (hb hby at_276) rfl (feq hc276).2 (by decide) (by decide) ?_
        show Steps p.tables e below (s₁.setTop (mkF m 285 #[.val (.int y1), .val (.int y2), .val (.int y3), .val (.long y4), .second, .val (.long y5), .second, .val (.long y6), .second, .val (.int v6), .val (.int xnf), .val (.long v27), .second, .unset, .unset, .unset, .unset, .unset, .unset, .unset, .unset, .unset, .unset, .unset, .unset, .unset, .unset, .unset] [])) _
        refine st148 _ ?_
        show Steps p.tables e below (T148.setTop (mkF m 288 #[.val (.int y1), .val (.int y2), .val (.int y3), .val (.long y4), .second, .val (.long y5), .second, .val (.long y6), .second, .val (.int v6), .val (.int xnf), .val (.long v27), .second, .unset, .unset, .unset, .unset, .unset, .unset, .unset, .unset, .unset, .unset, .unset, .unset, .unset, .unset, .unset] [(.ref wP)])) _
        refine XS.astore X148.here hx rfl (hb hby at_288) rfl rfl (l' := #[.val (.int y1), .val (.int y2), .val (.int y3), .val (.long y4), .second, .val (.long y5), .second, .val (.long y6), .second, .val (.int v6), .val (.int xnf), .val (.long v27), .second, .val (.ref wP), .unset, .unset, .unset, .unset, .unset, .unset, .unset, .unset, .unset, .unset, .unset, .unset, .unset, .unset]) rfl ?_
        show Steps p.tables e below (T148.setTop (mkF m 290 #[.val (.int y1), .val (.int y2), .val (.int y3), .val (.long y4), .second, .val (.long y5), .second, .val (.long y6), .second, .val (.int v6), .val (.int xnf), .val (.long v27), .second, .val (.ref wP), .unset, .unset, .unset, .unset, .unset, .unset, .unset, .unset, .unset, .unset, .unset, .unset, .unset, .unset] [])) _
        refine st149 _ ?_
        show Steps p.tables e below (T149.setTop (mkF m 293 #[.val (.int y1), .val (.int y2), .val (.int y3), .val (.long y4), .second, .val (.long y5), .second, .val (.long y6), .second, .val (.int v6), .val (.int xnf), .val (.long v27), .second, .val (.ref wP), .unset, .unset, .unset, .unset, .unset, .unset, .unset, .unset, .unset, .unset, .unset, .unset, .unset, .unset] [(.ref b149)])) _
        refine XS.dup X149.here hx rfl (hb hby at_293) rfl rfl ?_
        show Steps p.tables e below (T149.setTop (mkF m 294 #[.val (.int y1), .val (.int y2), .val (.int y3), .val (.long y4), .second, .val (.long y5), .second, .val (.long y6), .second, .val (.int v6), .val (.int xnf), .val (.long v27), .second, .val (.ref wP), .unset, .unset, .unset, .unset, .unset, .unset, .unset, .unset, .unset, .unset, .unset, .unset, .unset, .unset] [(.ref b149), (.ref b149)])) _
        refine XS.aload X149.here hx rfl (hb hby at_294) rfl rfl ?_
        show Steps p.tables e below (T149.setTop (mkF m 296 #[.val (.int y1), .val (.int y2), .val (.int y3), .val (.long y4), .second, .val (.long y5), .second, .val (.long y6), .second, .val (.int v6), .val (.int xnf), .val (.long v27), .second, .val (.ref wP), .unset, .unset, .unset, .unset, .unset, .unset, .unset, .unset, .unset, .unset, .unset, .unset, .unset, .unset] [(.ref wP), (.ref b149), (.ref b149)])) _
        refine XS.iload X149.here hx rfl (hb hby at_296) rfl ?_
        show Steps p.tables e below (T149.setTop (mkF m 298 #[.val (.int y1), .val (.int y2), .val (.int y3), .val (.long y4), .second, .val (.long y5), .second, .val (.long y6), .second, .val (.int v6), .val (.int xnf), .val (.long v27), .second, .val (.ref wP), .unset, .unset, .unset, .unset, .unset, .unset, .unset, .unset, .unset, .unset, .unset, .unset, .unset, .unset] [(.int xnf), (.ref wP), (.ref b149), (.ref b149)])) _
        refine XS.iloadN X149.here hx rfl (hb hby at_298) rfl ?_
        show Steps p.tables e below (T149.setTop (mkF m 299 #[.val (.int y1), .val (.int y2), .val (.int y3), .val (.long y4), .second, .val (.long y5), .second, .val (.long y6), .second, .val (.int v6), .val (.int xnf), .val (.long v27), .second, .val (.ref wP), .unset, .unset, .unset, .unset, .unset, .unset, .unset, .unset, .unset, .unset, .unset, .unset, .unset, .unset] [(.int y3), (.int xnf), (.ref wP), (.ref b149), (.ref b149)])) _
        refine XS.lloadN X149.here hx rfl (hb hby at_299) rfl ?_
        show Steps p.tables e below (T149.setTop (mkF m 300 #[.val (.int y1), .val (.int y2), .val (.int y3), .val (.long y4), .second, .val (.long y5), .second, .val (.long y6), .second, .val (.int v6), .val (.int xnf), .val (.long v27), .second, .val (.ref wP), .unset, .unset, .unset, .unset, .unset, .unset, .unset, .unset, .unset, .unset, .unset, .unset, .unset, .unset] [(.long y4), (.int y3), (.int xnf), (.ref wP), (.ref b149), (.ref b149)])) _
        refine XS.lload X149.here hx rfl (hb hby at_300) rfl ?_
        show Steps p.tables e below (T149.setTop (mkF m 302 #[.val (.int y1), .val (.int y2), .val (.int y3), .val (.long y4), .second, .val (.long y5), .second, .val (.long y6), .second, .val (.int v6), .val (.int xnf), .val (.long v27), .second, .val (.ref wP), .unset, .unset, .unset, .unset, .unset, .unset, .unset, .unset, .unset, .unset, .unset, .unset, .unset, .unset] [(.long y5), (.long y4), (.int y3), (.int xnf), (.ref wP), (.ref b149), (.ref b149)])) _
        refine st164.trans ?_
        show Steps p.tables e below (T164.setTop (mkF m 305 #[.val (.int y1), .val (.int y2), .val (.int y3), .val (.long y4), .second, .val (.long y5), .second, .val (.long y6), .second, .val (.int v6), .val (.int xnf), .val (.long v27), .second, .val (.ref wP), .unset, .unset, .unset, .unset, .unset, .unset, .unset, .unset, .unset, .unset, .unset, .unset, .unset, .unset] [(.ref b149)])) _
        refine XS.lload X164.here hx rfl (hb hby at_305) rfl ?_
        show Steps p.tables e below (T164.setTop (mkF m 307 #[.val (.int y1), .val (.int y2), .val (.int y3), .val (.long y4), .second, .val (.long y5), .second, .val (.long y6), .second, .val (.int v6), .val (.int xnf), .val (.long v27), .second, .val (.ref wP), .unset, .unset, .unset, .unset, .unset, .unset, .unset, .unset, .unset, .unset, .unset, .unset, .unset, .unset] [(.long v27), (.ref b149)])) _
        refine st181.trans ?_
        show Steps p.tables e below (T181.setTop (mkF m 310 #[.val (.int y1), .val (.int y2), .val (.int y3), .val (.long y4), .second, .val (.long y5), .second, .val (.long y6), .second, .val (.int v6), .val (.int xnf), .val (.long v27), .second, .val (.ref wP), .unset, .unset, .unset, .unset, .unset, .unset, .unset, .unset, .unset, .unset, .unset, .unset, .unset, .unset] [(.ref b181xn)])) _
        refine XS.astore X181.here hx rfl (hb hby at_310) rfl rfl (l' := #[.val (.int y1), .val (.int y2), .val (.int y3), .val (.long y4), .second, .val (.long y5), .second, .val (.long y6), .second, .val (.int v6), .val (.int xnf), .val (.long v27), .second, .val (.ref wP), .val (.ref b181xn), .unset, .unset, .unset, .unset, .unset, .unset, .unset, .unset, .unset, .unset, .unset, .unset, .unset]) rfl ?_
        show Steps p.tables e below (T181.setTop (mkF m 312 #[.val (.int y1), .val (.int y2), .val (.int y3), .val (.long y4), .second, .val (.long y5), .second, .val (.long y6), .second, .val (.int v6), .val (.int xnf), .val (.long v27), .second, .val (.ref wP), .val (.ref b181xn), .unset, .unset, .unset, .unset, .unset, .unset, .unset, .unset, .unset, .unset, .unset, .unset, .unset] [])) _
        refine XS.aload X181.here hx rfl (hb hby at_312) rfl rfl ?_
        show Steps p.tables e below (T181.setTop (mkF m 314 #[.val (.int y1), .val (.int y2), .val (.int y3), .val (.long y4), .second, .val (.long y5), .second, .val (.long y6), .second, .val (.int v6), .val (.int xnf), .val (.long v27), .second, .val (.ref wP), .val (.ref b181xn), .unset, .unset, .unset, .unset, .unset, .unset, .unset, .unset, .unset, .unset, .unset, .unset, .unset] [(.ref b181xn)])) _
        refine st202.trans ?_
        show Steps p.tables e below (T202.setTop (mkF m 317 #[.val (.int y1), .val (.int y2), .val (.int y3), .val (.long y4), .second, .val (.long y5), .second, .val (.long y6), .second, .val (.int v6), .val (.int xnf), .val (.long v27), .second, .val (.ref wP), .val (.ref b181xn), .unset, .unset, .unset, .unset, .unset, .unset, .unset, .unset, .unset, .unset, .unset, .unset, .unset] [(.int (nar .boolean (1 : Int32)))])) _
        refine XS.iload X202.here hx rfl (hb hby at_317) rfl ?_
        show Steps p.tables e below (T202.setTop (mkF m 319 #[.val (.int y1), .val (.int y2), .val (.int y3), .val (.long y4), .second, .val (.long y5), .second, .val (.long y6), .second, .val (.int v6), .val (.int xnf), .val (.long v27), .second, .val (.ref wP), .val (.ref b181xn), .unset, .unset, .unset, .unset, .unset, .unset, .unset, .unset, .unset, .unset, .unset, .unset, .unset] [(.int v6), (.int (nar .boolean (1 : Int32)))])) _
        refine XS.iconst X202.here hx rfl (hb hby at_319) ?_
        show Steps p.tables e below (T202.setTop (mkF m 320 #[.val (.int y1), .val (.int y2), .val (.int y3), .val (.long y4), .second, .val (.long y5), .second, .val (.long y6), .second, .val (.int v6), .val (.int xnf), .val (.long v27), .second, .val (.ref wP), .val (.ref b181xn), .unset, .unset, .unset, .unset, .unset, .unset, .unset, .unset, .unset, .unset, .unset, .unset, .unset] [(.int (2 : Int32)), (.int v6), (.int (nar .boolean (1 : Int32)))])) _
        refine XS.icmpNo X202.here hx rfl (hb hby at_320) rfl (teq hd203).2 ?_
        show Steps p.tables e below (T202.setTop (mkF m 323 #[.val (.int y1), .val (.int y2), .val (.int y3), .val (.long y4), .second, .val (.long y5), .second, .val (.long y6), .second, .val (.int v6), .val (.int xnf), .val (.long v27), .second, .val (.ref wP), .val (.ref b181xn), .unset, .unset, .unset, .unset, .unset, .unset, .unset, .unset, .unset, .unset, .unset, .unset, .unset] [(.int (nar .boolean (1 : Int32)))])) _
        refine XS.iconst X202.here hx rfl (hb hby at_323) ?_
        show Steps p.tables e below (T202.setTop (mkF m 324 #[.val (.int y1), .val (.int y2), .val (.int y3), .val (.long y4), .second, .val (.long y5), .second, .val (.long y6), .second, .val (.int v6), .val (.int xnf), .val (.long v27), .second, .val (.ref wP), .val (.ref b181xn), .unset, .unset, .unset, .unset, .unset, .unset, .unset, .unset, .unset, .unset, .unset, .unset, .unset] [(.int (1 : Int32)), (.int (nar .boolean (1 : Int32)))])) _
        refine XS.goto X202.here hx rfl (pc0 := 324) (pc' := 328) rfl (hb hby at_324) (by decide) (by decide) ?_
        show Steps p.tables e below (T202.setTop (mkF m 328 #[.val (.int y1), .val (.int y2), .val (.int y3), .val (.long y4), .second, .val (.long y5), .second, .val (.long y6), .second, .val (.int v6), .val (.int xnf), .val (.long v27), .second, .val (.ref wP), .val (.ref b181xn), .unset, .unset, .unset, .unset, .unset, .unset, .unset, .unset, .unset, .unset, .unset, .unset, .unset] [(.int (1 : Int32)), (.int (nar .boolean (1 : Int32)))])) _
        refine XS.icmpNo X202.here hx rfl (hb hby at_328) rfl (teq hd204).2 ?_
        show Steps p.tables e below (T202.setTop (mkF m 331 #[.val (.int y1), .val (.int y2), .val (.int y3), .val (.long y4), .second, .val (.long y5), .second, .val (.long y6), .second, .val (.int v6), .val (.int xnf), .val (.long v27), .second, .val (.ref wP), .val (.ref b181xn), .unset, .unset, .unset, .unset, .unset, .unset, .unset, .unset, .unset, .unset, .unset, .unset, .unset] [])) _
        refine XS.aload X202.here hx rfl (hb hby at_331) rfl rfl ?_
        show Steps p.tables e below (T202.setTop (mkF m 333 #[.val (.int y1), .val (.int y2), .val (.int y3), .val (.long y4), .second, .val (.long y5), .second, .val (.long y6), .second, .val (.int v6), .val (.int xnf), .val (.long v27), .second, .val (.ref wP), .val (.ref b181xn), .unset, .unset, .unset, .unset, .unset, .unset, .unset, .unset, .unset, .unset, .unset, .unset, .unset] [(.ref b181xn)])) _
        refine st205.trans ?_
        show Steps p.tables e below (T205.setTop (mkF m 336 #[.val (.int y1), .val (.int y2), .val (.int y3), .val (.long y4), .second, .val (.long y5), .second, .val (.long y6), .second, .val (.int v6), .val (.int xnf), .val (.long v27), .second, .val (.ref wP), .val (.ref b181xn), .unset, .unset, .unset, .unset, .unset, .unset, .unset, .unset, .unset, .unset, .unset, .unset, .unset] [(.long y5)])) _
        refine XS.lload X205.here hx rfl (hb hby at_336) rfl ?_
        show Steps p.tables e below (T205.setTop (mkF m 338 #[.val (.int y1), .val (.int y2), .val (.int y3), .val (.long y4), .second, .val (.long y5), .second, .val (.long y6), .second, .val (.int v6), .val (.int xnf), .val (.long v27), .second, .val (.ref wP), .val (.ref b181xn), .unset, .unset, .unset, .unset, .unset, .unset, .unset, .unset, .unset, .unset, .unset, .unset, .unset] [(.long y5), (.long y5)])) _
        refine XS.lcmp X205.here hx rfl (hb hby at_338) rfl ?_
        show Steps p.tables e below (T205.setTop (mkF m 339 #[.val (.int y1), .val (.int y2), .val (.int y3), .val (.long y4), .second, .val (.long y5), .second, .val (.long y6), .second, .val (.int v6), .val (.int xnf), .val (.long v27), .second, .val (.ref wP), .val (.ref b181xn), .unset, .unset, .unset, .unset, .unset, .unset, .unset, .unset, .unset, .unset, .unset, .unset, .unset] [(.int (lcmpW y5 y5))])) _
        refine XS.ifNo X205.here hx rfl (hb hby at_339) rfl ((if0 _ _).trans (teq ((lw_eq y5 y5).mpr rfl)).2) ?_
        show Steps p.tables e below (T205.setTop (mkF m 342 #[.val (.int y1), .val (.int y2), .val (.int y3), .val (.long y4), .second, .val (.long y5), .second, .val (.long y6), .second, .val (.int v6), .val (.int xnf), .val (.long v27), .second, .val (.ref wP), .val (.ref b181xn), .unset, .unset, .unset, .unset, .unset, .unset, .unset, .unset, .unset, .unset, .unset, .unset, .unset] [])) _
        refine XS.aload X205.here hx rfl (hb hby at_342) rfl rfl ?_
        show Steps p.tables e below (T205.setTop (mkF m 344 #[.val (.int y1), .val (.int y2), .val (.int y3), .val (.long y4), .second, .val (.long y5), .second, .val (.long y6), .second, .val (.int v6), .val (.int xnf), .val (.long v27), .second, .val (.ref wP), .val (.ref b181xn), .unset, .unset, .unset, .unset, .unset, .unset, .unset, .unset, .unset, .unset, .unset, .unset, .unset] [(.ref b181xn)])) _
        refine st206.trans ?_
        show Steps p.tables e below (T206.setTop (mkF m 347 #[.val (.int y1), .val (.int y2), .val (.int y3), .val (.long y4), .second, .val (.long y5), .second, .val (.long y6), .second, .val (.int v6), .val (.int xnf), .val (.long v27), .second, .val (.ref wP), .val (.ref b181xn), .unset, .unset, .unset, .unset, .unset, .unset, .unset, .unset, .unset, .unset, .unset, .unset, .unset] [(.long (0 : Int64))])) _
        refine XS.lconst X206.here hx rfl (hb hby at_347) ?_
        show Steps p.tables e below (T206.setTop (mkF m 348 #[.val (.int y1), .val (.int y2), .val (.int y3), .val (.long y4), .second, .val (.long y5), .second, .val (.long y6), .second, .val (.int v6), .val (.int xnf), .val (.long v27), .second, .val (.ref wP), .val (.ref b181xn), .unset, .unset, .unset, .unset, .unset, .unset, .unset, .unset, .unset, .unset, .unset, .unset, .unset] [(.long (0 : Int64)), (.long (0 : Int64))])) _
        refine XS.lcmp X206.here hx rfl (hb hby at_348) rfl ?_
        show Steps p.tables e below (T206.setTop (mkF m 349 #[.val (.int y1), .val (.int y2), .val (.int y3), .val (.long y4), .second, .val (.long y5), .second, .val (.long y6), .second, .val (.int v6), .val (.int xnf), .val (.long v27), .second, .val (.ref wP), .val (.ref b181xn), .unset, .unset, .unset, .unset, .unset, .unset, .unset, .unset, .unset, .unset, .unset, .unset, .unset] [(.int (lcmpW (0 : Int64) (0 : Int64)))])) _
        refine XS.ifNo X206.here hx rfl (hb hby at_349) rfl ((if0 _ _).trans (teq ((lw_eq (0 : Int64) (0 : Int64)).mpr rfl)).2) ?_
        show Steps p.tables e below (T206.setTop (mkF m 352 #[.val (.int y1), .val (.int y2), .val (.int y3), .val (.long y4), .second, .val (.long y5), .second, .val (.long y6), .second, .val (.int v6), .val (.int xnf), .val (.long v27), .second, .val (.ref wP), .val (.ref b181xn), .unset, .unset, .unset, .unset, .unset, .unset, .unset, .unset, .unset, .unset, .unset, .unset, .unset] [])) _
        refine XS.aload X206.here hx rfl (hb hby at_352) rfl rfl ?_
        show Steps p.tables e below (T206.setTop (mkF m 354 #[.val (.int y1), .val (.int y2), .val (.int y3), .val (.long y4), .second, .val (.long y5), .second, .val (.long y6), .second, .val (.int v6), .val (.int xnf), .val (.long v27), .second, .val (.ref wP), .val (.ref b181xn), .unset, .unset, .unset, .unset, .unset, .unset, .unset, .unset, .unset, .unset, .unset, .unset, .unset] [(.ref b181xn)])) _
        refine st207.trans ?_
        show Steps p.tables e below (T207.setTop (mkF m 357 #[.val (.int y1), .val (.int y2), .val (.int y3), .val (.long y4), .second, .val (.long y5), .second, .val (.long y6), .second, .val (.int v6), .val (.int xnf), .val (.long v27), .second, .val (.ref wP), .val (.ref b181xn), .unset, .unset, .unset, .unset, .unset, .unset, .unset, .unset, .unset, .unset, .unset, .unset, .unset] [(.int y3)])) _
        refine XS.iloadN X207.here hx rfl (hb hby at_357) rfl ?_
        show Steps p.tables e below (T207.setTop (mkF m 358 #[.val (.int y1), .val (.int y2), .val (.int y3), .val (.long y4), .second, .val (.long y5), .second, .val (.long y6), .second, .val (.int v6), .val (.int xnf), .val (.long v27), .second, .val (.ref wP), .val (.ref b181xn), .unset, .unset, .unset, .unset, .unset, .unset, .unset, .unset, .unset, .unset, .unset, .unset, .unset] [(.int y3), (.int y3)])) _
        refine XS.icmpNo X207.here hx rfl (hb hby at_358) rfl (teq rfl).2 ?_
        show Steps p.tables e below (T207.setTop (mkF m 361 #[.val (.int y1), .val (.int y2), .val (.int y3), .val (.long y4), .second, .val (.long y5), .second, .val (.long y6), .second, .val (.int v6), .val (.int xnf), .val (.long v27), .second, .val (.ref wP), .val (.ref b181xn), .unset, .unset, .unset, .unset, .unset, .unset, .unset, .unset, .unset, .unset, .unset, .unset, .unset] [])) _
        refine XS.iconst X207.here hx rfl (hb hby at_361) ?_
        show Steps p.tables e below (T207.setTop (mkF m 362 #[.val (.int y1), .val (.int y2), .val (.int y3), .val (.long y4), .second, .val (.long y5), .second, .val (.long y6), .second, .val (.int v6), .val (.int xnf), .val (.long v27), .second, .val (.ref wP), .val (.ref b181xn), .unset, .unset, .unset, .unset, .unset, .unset, .unset, .unset, .unset, .unset, .unset, .unset, .unset] [(.int (1 : Int32))])) _
        refine XS.goto X207.here hx rfl (pc0 := 362) (pc' := 366) rfl (hb hby at_362) (by decide) (by decide) ?_
        show Steps p.tables e below (T207.setTop (mkF m 366 #[.val (.int y1), .val (.int y2), .val (.int y3), .val (.long y4), .second, .val (.long y5), .second, .val (.long y6), .second, .val (.int v6), .val (.int xnf), .val (.long v27), .second, .val (.ref wP), .val (.ref b181xn), .unset, .unset, .unset, .unset, .unset, .unset, .unset, .unset, .unset, .unset, .unset, .unset, .unset] [(.int (1 : Int32))])) _
        exact retN X207 hx (t := .boolean) Bd.returns (by simp) (hb hby at_366) hr
      · show own_Q0 Z y1 y2 y3 y4 y5 y6 wI wN wP h0 n0 _ T207.heap _
        rw [eh207]
        exact ⟨rfl, N207⟩
set_option maxRecDepth 65536 in
set_option maxHeartbeats 40000000 in
theorem own_comes_1 {Post : Tables → Env → Array Value → State → Outcome → State → Prop} (hpost : ∀ tb e args s v u, (limb_1_1.after args s (.returned v) u = true ∧ limb_1_2.after args s (.returned v) u = true ∧ True) → FrameEnd s (.returned v) u (Jvm.fieldLocs frame_1_writes args s ++ Jvm.arrayLocs frame_1_arrays args s ++ Jvm.staticLocs frame_1_statics s) 16 128 → Post tb e args s (.returned v) u) :
    ArmFor flags0 classFile x code maxLocals ret World_1 tables_1 room_1 Calls_1 rest_1 Pre_1 Post := by
  intro l hfl _ _ p e ha hc hk s m args below hf hA hF happ hP
  obtain ⟨hcalls, hrest, hpre⟩ := hP
  obtain ⟨-, -, -, hnamed, -, -, -, hat⟩ := (Spec.applies_iff hf).mp happ
  obtain ⟨hg, hn⟩ := and_e (Cond.before_iff.mp (show (Jvm.Cond.and given_1 narrow_1).before args s = true from hpre))
  obtain ⟨gg1, gg2⟩ := and_e hg
  obtain ⟨gg3, gg4⟩ := and_e gg2
  obtain ⟨gg5, gg6⟩ := and_e gg4
  obtain ⟨gg7, gg8⟩ := and_e gg6
  obtain ⟨gg9, gg10⟩ := and_e gg8
  obtain ⟨gg11, gg12⟩ := and_e gg10
  obtain ⟨w0, w1, w2, w3, w4, w5, rfl⟩ : ∃ w0 w1 w2 w3 w4 w5 : Value, args = #[w0, w1, w2, w3, w4, w5] := by
    have hs : args.size = 6 := by simpa [Cond.value, given_1] using gg1
    obtain ⟨L⟩ := args
    match L, hs with
    | [w0, w1, w2, w3, w4, w5], _ => exact ⟨w0, w1, w2, w3, w4, w5, rfl⟩
  have hw := fun d (hd : d ∈ tables_1) => atoms_spec (ws := Jvm.Cond.code x code maxLocals ret :: tables_1) hat d (List.mem_cons_of_mem _ hd)
  have hfit : Fit s := fun {y c} hc i hi => by
    obtain ⟨ha, rfl⟩ := Array.getElem?_eq_some_iff.mp hc
    have q := List.all_eq_true.mp ((Array.all_eq_true_iff_forall_mem.mp hF) _ (Array.getElem_mem ha)) i (List.mem_range.mpr hi)
    simpa [Array.getElem?_eq_getElem hi] using q
  obtain ⟨i0, ei0⟩ := is_v gg3
  obtain rfl : w0 = (.int i0) := Option.some.inj ei0
  obtain ⟨i1, ei1⟩ := is_v gg5
  obtain rfl : w1 = (.int i1) := Option.some.inj ei1
  obtain ⟨i2, ei2⟩ := is_v gg7
  obtain rfl : w2 = (.int i2) := Option.some.inj ei2
  obtain ⟨i3, ei3⟩ := isL_v gg9
  obtain rfl : w3 = (.long i3) := Option.some.inj ei3
  obtain ⟨i4, ei4⟩ := isL_v gg11
  obtain rfl : w4 = (.long i4) := Option.some.inj ei4
  obtain ⟨i5, ei5⟩ := isL_v gg12
  obtain rfl : w5 = (.long i5) := Option.some.inj ei5
  obtain ⟨n0, r0⟩ := and_e hn
  obtain ⟨n1, r1⟩ := and_e r0
  obtain ⟨n2, r2⟩ := and_e r1
  obtain ⟨n3, r3⟩ := and_e r2
  obtain ⟨n4, r4⟩ := and_e r3
  have n5 := r4
  obtain ⟨wI, evwI⟩ := exa_v n0
  have SwI := Sta.start evwI (Or.inr ⟨(hw _ (List.mem_of_getElem? (i := 13) rfl)), (hw _ (List.mem_of_getElem? (i := 14) rfl))⟩)
  have EwI := Exa.start evwI n0
  have FwI := Fld.start (own_fi evwI n1)
  obtain ⟨wP, evwP⟩ := exa_v n2
  have SwP := Sta.start evwP (Or.inr ⟨(hw _ (List.mem_of_getElem? (i := 13) rfl)), (hw _ (List.mem_of_getElem? (i := 87) rfl))⟩)
  have EwP := Exa.start evwP n2
  have FwP := Fld.start (own_fi evwP n3)
  obtain ⟨wN, evwN⟩ := exa_v n4
  have SwN := Sta.start evwN (Or.inr ⟨(hw _ (List.mem_of_getElem? (i := 13) rfl)), (hw _ (List.mem_of_getElem? (i := 89) rfl))⟩)
  have EwN := Exa.start evwN n4
  have FwN := Fld.start (own_fi evwN n5)
  obtain ⟨n, o, h1, h2, h3, _, L, rfl, ⟨rfl, N⟩, hq⟩ := own_rm0 l s _ hw tables_1 i0 i1 i2 i3 i4 i5 wI wN wP s.heap s.heap.size (Nat.le_refl _) SwI SwN SwP EwI EwN EwP FwI FwN FwP p e ha hc hk s m _ below hf ((Spec.applies_iff_loose hf).mp happ).1 ⟨rfl, State.Warmed39.refl s, rfl⟩ trivial
  refine ⟨n, _, h1, h2, h3, hpost _ _ _ _ _ _ ⟨Cond.after_iff.mpr rfl, Cond.after_iff.mpr (eq_i res_at (Term.int_eval (1)) rfl), trivial⟩ ⟨hq.1, hq.2.1, (hq.2.2.sift fun y hy => Or.inr (N y hy)).mono (by decide) (by decide)⟩⟩
theorem main_1_1 : Claimed_1_1 := own_comes_1 fun _ _ _ _ _ _ h hF => ⟨h.1, hF⟩
theorem main_1_2 : Claimed_1_2 := own_comes_1 fun _ _ _ _ _ _ h hF => ⟨h.2.1, hF⟩
end Jvm.Pilot.@@N@@
namespace Jvm.Pilot.@@N@@
open Jvm Jvm.ClassFile Sem Op Lib Jvm.Free Jvm.Stand Jvm.Pilot.@@N@@.Jvm.D
/-! MADE BY PROGRAM (witnessworld.py) out of the Statement's table words and the real class files: 16 classes; the members and pool entries that the words name. The judged class is class 1, her method 1. -/
namespace start1
open Jvm.ClassFile
def u (s : String) : CpInfo := .utf8 (stringToUtf16 s)
/-- a pool by its gaps: so many unusable entries, then the entry; so many at the end -/
def gap : Nat → List CpInfo → List CpInfo
  | 0, r => r
  | n + 1, r => .unusable :: gap n r
def poolList (es : List (Nat × CpInfo)) (last : Nat) : List CpInfo := es.foldr (fun e r => gap e.1 (e.2 :: r)) (gap last [])
def pool (es : List (Nat × CpInfo)) (last : Nat) : Array CpInfo := ⟨poolList es last⟩
def fileOf (pool : Array CpInfo) (this : Nat) (attrs : Array Attribute := #[]) (ms : Array MethodInfo := #[]) (fl : Nat := 33) (sup : Nat := 0) (ifs : Array Nat := #[]) (fds : Array FieldInfo := #[]) : ClassFile where
  minorVersion := 0
  majorVersion := 65
  constantPool := pool
  accessFlags := fl
  thisClass := this
  superClass := sup
  interfaces := ifs
  fields := fds
  methods := ms
  attributes := attrs
def plain (name : String) (sup : Option ClassId) : Class where
  name := name
  kind := .ordinary
  loader := none
  accessFlags := 33
  super := sup
  interfaces := #[]
  cf := none
  fields := #[]
  methods := #[]
  instanceTypes := #[]
  staticTypes := #[]
  resolved := #[]
  callSites := []
  init := .initialized
  statics := none
  mirror := none

def pool0 : Array CpInfo := pool [(5, u "<init>"), (0, u "()V"), (1, .class_ 10), (1, u "java/lang/Object")] 113

def k0c0 : Code := { maxStack := 0, maxLocals := 1, code := object_method_1_code, exceptionTable := #[], attributes := #[] }
def k0m0 : Method := { name := "<init>", desc := "()V", sig := { parameters := [], returnType := none }, accessFlags := 1, code := some k0c0 }
/-- java/lang/Object -/
def k0 : Class := { plain "java/lang/Object" none with
  accessFlags := 33
  interfaces := #[]
  cf := some (fileOf pool0 8 #[] #[{ accessFlags := 1, nameIndex := 5, descriptorIndex := 6, attributes := #[] }] 33 0 #[] #[])
  fields := #[]
  methods := #[k0m0]
  instanceTypes := #[]
  staticTypes := #[]
  resolved := Array.replicate 124 none
  statics := none }

def pool1 : Array CpInfo := pool [(2, .class_ 4), (1, u "java/lang/Object"), (0, u "<init>"), (0, u "()V"), (0, .integer 2147483647), (2, .long 9223372036854775807), (1, .methodref 13 14), (0, .class_ 15), (0, .nameAndType 16 17), (0, u "java/lang/Math"), (0, u "max"), (0, u "(II)I"), (0, .methodref 13 19), (0, .nameAndType 16 20), (0, u "(JJ)J"), (0, .class_ 22), (0, u "com/example/tracebook/tracebook/model/Paging"), (0, .fieldref 24 25), (0, .class_ 26), (0, .nameAndType 27 28), (0, u "com/example/tracebook/tracebook/model/Paging$Type"), (0, u "INIT"), (0, u "Lcom/example/tracebook/tracebook/model/Paging$Type;"), (0, .methodref 21 30), (0, .nameAndType 5 31), (0, u "(Lcom/example/tracebook/tracebook/model/Paging$Type;ZIJJ)V"), (0, .methodref 21 33), (0, .nameAndType 34 35), (0, u "walk"), (0, u "(J)Lcom/example/tracebook/tracebook/model/Paging$Walk;"), (0, .methodref 37 38), (0, .class_ 39), (0, .nameAndType 40 41), (0, u "com/example/tracebook/tracebook/model/Paging$Walk"), (0, u "backward"), (0, u "()Z"), (0, .methodref 37 43), (0, .nameAndType 44 45), (0, u "from"), (0, u "()J"), (0, .methodref 37 47), (0, .nameAndType 48 45), (0, u "skip"), (0, .methodref 37 50), (0, .nameAndType 51 52), (0, u "take"), (0, u "()I"), (0, .fieldref 24 54), (0, .nameAndType 55 28), (0, u "NEXT"), (0, .fieldref 24 57), (0, .nameAndType 58 28), (0, u "PRE"), (0, .class_ 60), (0, u "com/example/tracebook/tracebook/model/PagingWalkPinLaw"), (2, u "law"), (0, u "(IIIJJJ)Z")] 6

def k1m0 : Method := { name := "<init>", desc := "()V", sig := { parameters := [], returnType := none }, accessFlags := 1, code := none }
def k1c1 : Code := { maxStack := 9, maxLocals := 28, code := code, exceptionTable := #[], attributes := #[] }
def k1m1 : Method := { name := "law", desc := "(IIIJJJ)Z", sig := { parameters := [.int, .int, .int, .long, .long, .long], returnType := some .boolean }, accessFlags := 9, code := some k1c1 }
/-- com/example/tracebook/tracebook/model/PagingWalkPinLaw -/
def k1 : Class := { plain "com/example/tracebook/tracebook/model/PagingWalkPinLaw" (some 0) with
  accessFlags := 49
  interfaces := #[]
  cf := some (fileOf pool1 59 #[] #[{ accessFlags := 1, nameIndex := 5, descriptorIndex := 6, attributes := #[] }, { accessFlags := 9, nameIndex := 63, descriptorIndex := 64, attributes := #[] }] 49 2 #[] #[])
  fields := #[]
  methods := #[k1m0, k1m1]
  instanceTypes := #[]
  staticTypes := #[]
  resolved := Array.replicate 71 none
  statics := none }

def pool2 : Array CpInfo := pool [(1, .class_ 2), (0, u "java/lang/Math"), (1, .class_ 6), (1, u "java/lang/Object"), (0, u "<init>"), (0, u "()V"), (89, .class_ 100), (1, u "java/lang/Math$RandomNumberGeneratorHolder"), (20, u "(JJ)J"), (50, u "negativeZeroFloatBits"), (0, u "J"), (2, u "negativeZeroDoubleBits"), (21, u "max"), (2, u "min"), (43, u "$assertionsDisabled"), (0, u "Z"), (88, u "(II)I"), (2, u "twoToTheDoubleScaleDown"), (0, u "D"), (4, u "twoToTheDoubleScaleUp"), (9, u "E"), (3, u "PI"), (2, u "TAU"), (2, u "DEGREES_TO_RADIANS"), (0, u "RADIANS_TO_DEGREES")] 94

def k2m0 : Method := { name := "<init>", desc := "()V", sig := { parameters := [], returnType := none }, accessFlags := 2, code := none }
def k2c1 : Code := { maxStack := 2, maxLocals := 2, code := jdk_29_method_65_code, exceptionTable := #[], attributes := #[] }
def k2m1 : Method := { name := "max", desc := "(II)I", sig := { parameters := [.int, .int], returnType := some .int }, accessFlags := 9, code := some k2c1 }
def k2c2 : Code := { maxStack := 4, maxLocals := 4, code := jdk_29_method_66_code, exceptionTable := #[], attributes := #[] }
def k2m2 : Method := { name := "max", desc := "(JJ)J", sig := { parameters := [.long, .long], returnType := some .long }, accessFlags := 9, code := some k2c2 }
def k2c3 : Code := { maxStack := 4, maxLocals := 4, code := jdk_29_method_70_code, exceptionTable := #[], attributes := #[] }
def k2m3 : Method := { name := "min", desc := "(JJ)J", sig := { parameters := [.long, .long], returnType := some .long }, accessFlags := 9, code := some k2c3 }
/-- java/lang/Math -/
def k2 : Class := { plain "java/lang/Math" (some 0) with
  accessFlags := 49
  interfaces := #[]
  cf := some (fileOf pool2 1 #[.nestMembers #[98]] #[{ accessFlags := 2, nameIndex := 7, descriptorIndex := 8, attributes := #[] }, { accessFlags := 9, nameIndex := 198, descriptorIndex := 335, attributes := #[] }, { accessFlags := 9, nameIndex := 198, descriptorIndex := 121, attributes := #[] }, { accessFlags := 9, nameIndex := 201, descriptorIndex := 121, attributes := #[] }] 49 4 #[] #[{ accessFlags := 25, nameIndex := 354, descriptorIndex := 339, attributes := #[] }, { accessFlags := 25, nameIndex := 358, descriptorIndex := 339, attributes := #[] }, { accessFlags := 25, nameIndex := 361, descriptorIndex := 339, attributes := #[] }, { accessFlags := 26, nameIndex := 364, descriptorIndex := 339, attributes := #[] }, { accessFlags := 26, nameIndex := 365, descriptorIndex := 339, attributes := #[] }, { accessFlags := 26, nameIndex := 172, descriptorIndex := 173, attributes := #[] }, { accessFlags := 26, nameIndex := 176, descriptorIndex := 173, attributes := #[] }, { accessFlags := 8, nameIndex := 344, descriptorIndex := 339, attributes := #[] }, { accessFlags := 8, nameIndex := 338, descriptorIndex := 339, attributes := #[] }, { accessFlags := 4120, nameIndex := 245, descriptorIndex := 246, attributes := #[] }])
  fields := #[{ name := "E", type := .double, accessFlags := 25, slot := 0, constantValue := 0 }, { name := "PI", type := .double, accessFlags := 25, slot := 1, constantValue := 0 }, { name := "TAU", type := .double, accessFlags := 25, slot := 2, constantValue := 0 }, { name := "DEGREES_TO_RADIANS", type := .double, accessFlags := 26, slot := 3, constantValue := 0 }, { name := "RADIANS_TO_DEGREES", type := .double, accessFlags := 26, slot := 4, constantValue := 0 }, { name := "negativeZeroFloatBits", type := .long, accessFlags := 26, slot := 5, constantValue := 0 }, { name := "negativeZeroDoubleBits", type := .long, accessFlags := 26, slot := 6, constantValue := 0 }, { name := "twoToTheDoubleScaleUp", type := .double, accessFlags := 8, slot := 7, constantValue := 0 }, { name := "twoToTheDoubleScaleDown", type := .double, accessFlags := 8, slot := 8, constantValue := 0 }, { name := "$assertionsDisabled", type := .boolean, accessFlags := 4120, slot := 9, constantValue := 0 }]
  methods := #[k2m0, k2m1, k2m2, k2m3]
  instanceTypes := #[]
  staticTypes := #[.double, .double, .double, .double, .double, .long, .long, .double, .double, .boolean]
  resolved := Array.replicate 460 none
  statics := none }

def pool3 : Array CpInfo := pool [(1, .methodref 2 3), (0, .class_ 4), (0, .nameAndType 5 6), (0, u "java/lang/Object"), (0, u "<init>"), (0, u "()V"), (0, .class_ 8), (0, u "java/lang/Record")] 13

def k3c0 : Code := { maxStack := 1, maxLocals := 1, code := jdk_30_method_1_code, exceptionTable := #[], attributes := #[] }
def k3m0 : Method := { name := "<init>", desc := "()V", sig := { parameters := [], returnType := none }, accessFlags := 4, code := some k3c0 }
/-- java/lang/Record -/
def k3 : Class := { plain "java/lang/Record" (some 0) with
  accessFlags := 1057
  interfaces := #[]
  cf := some (fileOf pool3 7 #[] #[{ accessFlags := 4, nameIndex := 5, descriptorIndex := 6, attributes := #[] }] 1057 2 #[] #[])
  fields := #[]
  methods := #[k3m0]
  instanceTypes := #[]
  staticTypes := #[]
  resolved := Array.replicate 22 none
  statics := none }

def pool4 : Array CpInfo := pool [(1, .methodref 2 3), (0, .class_ 4), (0, .nameAndType 5 6), (0, u "java/lang/Record"), (0, u "<init>"), (0, u "()V"), (0, .fieldref 8 9), (0, .class_ 10), (0, .nameAndType 11 12), (0, u "com/example/tracebook/tracebook/model/Paging"), (0, u "type"), (0, u "Lcom/example/tracebook/tracebook/model/Paging$Type;"), (0, .fieldref 8 14), (0, .nameAndType 15 16), (0, u "newestFirst"), (0, u "Z"), (0, .fieldref 8 18), (0, .nameAndType 19 20), (0, u "pageSize"), (0, u "I"), (0, .fieldref 8 22), (0, .nameAndType 23 24), (0, u "pageIndex"), (0, u "J"), (0, .fieldref 8 26), (0, .nameAndType 27 24), (0, u "recordTime"), (0, .methodref 29 30), (0, .class_ 31), (0, .nameAndType 32 33), (0, u "com/example/tracebook/tracebook/model/Paging$Type"), (0, u "ordinal"), (0, u "()I"), (2, .long 9223372036854775807), (1, .class_ 39), (0, u "com/example/tracebook/tracebook/model/Paging$Walk"), (0, .methodref 38 41), (0, .nameAndType 5 42), (0, u "(ZJJI)V"), (0, .methodref 44 45), (0, .class_ 46), (0, .nameAndType 47 48), (0, u "java/lang/Math"), (0, u "min"), (0, u "(JJ)J"), (27, u "(Lcom/example/tracebook/tracebook/model/Paging$Type;ZIJJ)V"), (3, u "walk"), (0, u "(J)Lcom/example/tracebook/tracebook/model/Paging$Walk;"), (9, .class_ 92), (0, u "com/example/tracebook/tracebook/model/Paging$Page")] 33

def k4c0 : Code := { maxStack := 3, maxLocals := 8, code := prog_14_method_1_code, exceptionTable := #[], attributes := #[] }
def k4m0 : Method := { name := "<init>", desc := "(Lcom/example/tracebook/tracebook/model/Paging$Type;ZIJJ)V", sig := { parameters := [(.object "com/example/tracebook/tracebook/model/Paging$Type"), .boolean, .int, .long, .long], returnType := none }, accessFlags := 1, code := some k4c0 }
def k4c1 : Code := { maxStack := 8, maxLocals := 12, code := prog_14_method_2_code, exceptionTable := #[], attributes := #[] }
def k4m1 : Method := { name := "walk", desc := "(J)Lcom/example/tracebook/tracebook/model/Paging$Walk;", sig := { parameters := [.long], returnType := some (.object "com/example/tracebook/tracebook/model/Paging$Walk") }, accessFlags := 1, code := some k4c1 }
/-- com/example/tracebook/tracebook/model/Paging -/
def k4 : Class := { plain "com/example/tracebook/tracebook/model/Paging" (some 3) with
  accessFlags := 49
  interfaces := #[]
  cf := some (fileOf pool4 8 #[.nestMembers #[38, 91, 29]] #[{ accessFlags := 1, nameIndex := 5, descriptorIndex := 76, attributes := #[] }, { accessFlags := 1, nameIndex := 80, descriptorIndex := 81, attributes := #[] }] 49 2 #[] #[{ accessFlags := 18, nameIndex := 11, descriptorIndex := 12, attributes := #[] }, { accessFlags := 18, nameIndex := 15, descriptorIndex := 16, attributes := #[] }, { accessFlags := 18, nameIndex := 19, descriptorIndex := 20, attributes := #[] }, { accessFlags := 18, nameIndex := 23, descriptorIndex := 24, attributes := #[] }, { accessFlags := 18, nameIndex := 27, descriptorIndex := 24, attributes := #[] }])
  fields := #[{ name := "type", type := (.object "com/example/tracebook/tracebook/model/Paging$Type"), accessFlags := 18, slot := 0, constantValue := 0 }, { name := "newestFirst", type := .boolean, accessFlags := 18, slot := 1, constantValue := 0 }, { name := "pageSize", type := .int, accessFlags := 18, slot := 2, constantValue := 0 }, { name := "pageIndex", type := .long, accessFlags := 18, slot := 3, constantValue := 0 }, { name := "recordTime", type := .long, accessFlags := 18, slot := 4, constantValue := 0 }]
  methods := #[k4m0, k4m1]
  instanceTypes := #[(.object "com/example/tracebook/tracebook/model/Paging$Type"), .boolean, .int, .long, .long]
  staticTypes := #[]
  resolved := Array.replicate 126 none
  statics := none }

def pool5 : Array CpInfo := pool [(1, .class_ 2), (0, u "java/lang/constant/Constable"), (0, .class_ 4), (0, u "java/lang/Object")] 6

/-- java/lang/constant/Constable -/
def k5 : Class := { plain "java/lang/constant/Constable" (some 0) with
  accessFlags := 1537
  interfaces := #[]
  cf := some (fileOf pool5 1 #[] #[] 1537 3 #[] #[])
  fields := #[]
  methods := #[]
  instanceTypes := #[]
  staticTypes := #[]
  resolved := Array.replicate 11 none
  statics := none }

def pool6 : Array CpInfo := pool [(1, .class_ 2), (0, u "java/lang/Comparable"), (0, .class_ 4), (0, u "java/lang/Object")] 7

/-- java/lang/Comparable -/
def k6 : Class := { plain "java/lang/Comparable" (some 0) with
  accessFlags := 1537
  interfaces := #[]
  cf := some (fileOf pool6 1 #[] #[] 1537 3 #[] #[])
  fields := #[]
  methods := #[]
  instanceTypes := #[]
  staticTypes := #[]
  resolved := Array.replicate 12 none
  statics := none }

def pool7 : Array CpInfo := pool [(1, .class_ 2), (0, u "java/io/Serializable"), (0, .class_ 4), (0, u "java/lang/Object")] 2

/-- java/io/Serializable -/
def k7 : Class := { plain "java/io/Serializable" (some 0) with
  accessFlags := 1537
  interfaces := #[]
  cf := some (fileOf pool7 1 #[] #[] 1537 3 #[] #[])
  fields := #[]
  methods := #[]
  instanceTypes := #[]
  staticTypes := #[]
  resolved := Array.replicate 7 none
  statics := none }

def pool8 : Array CpInfo := pool [(2, .class_ 4), (1, u "java/lang/Enum"), (0, u "name"), (0, u "Ljava/lang/String;"), (0, .fieldref 2 8), (0, .nameAndType 9 10), (0, u "ordinal"), (0, u "I"), (1, .class_ 14), (1, u "java/lang/Object"), (4, u "hash"), (86, .class_ 108), (1, u "java/lang/Enum$EnumDesc"), (2, .class_ 112), (0, u "java/lang/constant/Constable"), (0, .class_ 114), (0, u "java/lang/Comparable"), (0, .class_ 116), (0, u "java/io/Serializable"), (9, u "()I")] 77

def k8c0 : Code := { maxStack := 1, maxLocals := 1, code := jdk_37_method_2_code, exceptionTable := #[], attributes := #[] }
def k8m0 : Method := { name := "ordinal", desc := "()I", sig := { parameters := [], returnType := some .int }, accessFlags := 17, code := some k8c0 }
/-- java/lang/Enum -/
def k8 : Class := { plain "java/lang/Enum" (some 0) with
  accessFlags := 1057
  interfaces := #[5, 6, 7]
  cf := some (fileOf pool8 2 #[.nestMembers #[106]] #[{ accessFlags := 17, nameIndex := 9, descriptorIndex := 126, attributes := #[] }] 1057 12 #[111, 113, 115] #[{ accessFlags := 18, nameIndex := 5, descriptorIndex := 6, attributes := #[] }, { accessFlags := 18, nameIndex := 9, descriptorIndex := 10, attributes := #[] }, { accessFlags := 2, nameIndex := 19, descriptorIndex := 10, attributes := #[] }])
  fields := #[{ name := "name", type := (.object "java/lang/String"), accessFlags := 18, slot := 0, constantValue := 0 }, { name := "ordinal", type := .int, accessFlags := 18, slot := 1, constantValue := 0 }, { name := "hash", type := .int, accessFlags := 2, slot := 2, constantValue := 0 }]
  methods := #[k8m0]
  instanceTypes := #[(.object "java/lang/String"), .int, .int]
  staticTypes := #[]
  resolved := Array.replicate 204 none
  statics := none }

def pool9 : Array CpInfo := pool [(1, .class_ 2), (0, u "com/example/tracebook/tracebook/model/Paging$Type"), (2, u "INIT"), (0, u "Lcom/example/tracebook/tracebook/model/Paging$Type;"), (2, u "NEXT"), (2, u "PRE"), (2, u "$VALUES"), (0, u "[Lcom/example/tracebook/tracebook/model/Paging$Type;"), (6, .class_ 25), (1, u "java/lang/Enum"), (8, u "parameter"), (0, u "Ljava/lang/String;"), (30, .class_ 67), (0, u "com/example/tracebook/tracebook/model/Paging")] 2

/-- com/example/tracebook/tracebook/model/Paging$Type -/
def k9 : Class := { plain "com/example/tracebook/tracebook/model/Paging$Type" (some 8) with
  accessFlags := 16433
  interfaces := #[]
  cf := some (fileOf pool9 1 #[.nestHost 66] #[] 16433 23 #[] #[{ accessFlags := 16409, nameIndex := 5, descriptorIndex := 6, attributes := #[] }, { accessFlags := 16409, nameIndex := 9, descriptorIndex := 6, attributes := #[] }, { accessFlags := 16409, nameIndex := 12, descriptorIndex := 6, attributes := #[] }, { accessFlags := 18, nameIndex := 34, descriptorIndex := 35, attributes := #[] }, { accessFlags := 4122, nameIndex := 15, descriptorIndex := 16, attributes := #[] }])
  fields := #[{ name := "INIT", type := (.object "com/example/tracebook/tracebook/model/Paging$Type"), accessFlags := 16409, slot := 0, constantValue := 0 }, { name := "NEXT", type := (.object "com/example/tracebook/tracebook/model/Paging$Type"), accessFlags := 16409, slot := 1, constantValue := 0 }, { name := "PRE", type := (.object "com/example/tracebook/tracebook/model/Paging$Type"), accessFlags := 16409, slot := 2, constantValue := 0 }, { name := "parameter", type := (.object "java/lang/String"), accessFlags := 18, slot := 3, constantValue := 0 }, { name := "$VALUES", type := (.array (.object "com/example/tracebook/tracebook/model/Paging$Type")), accessFlags := 4122, slot := 3, constantValue := 0 }]
  methods := #[]
  instanceTypes := #[(.object "java/lang/String"), .int, .int, (.object "java/lang/String")]
  staticTypes := #[(.object "com/example/tracebook/tracebook/model/Paging$Type"), (.object "com/example/tracebook/tracebook/model/Paging$Type"), (.object "com/example/tracebook/tracebook/model/Paging$Type"), (.array (.object "com/example/tracebook/tracebook/model/Paging$Type"))]
  resolved := Array.replicate 70 none
  statics := some 0 }

def pool10 : Array CpInfo := pool [(1, .methodref 2 3), (0, .class_ 4), (0, .nameAndType 5 6), (0, u "java/lang/Record"), (0, u "<init>"), (0, u "()V"), (0, .fieldref 8 9), (0, .class_ 10), (0, .nameAndType 11 12), (0, u "com/example/tracebook/tracebook/model/Paging$Walk"), (0, u "backward"), (0, u "Z"), (0, .fieldref 8 14), (0, .nameAndType 15 16), (0, u "from"), (0, u "J"), (0, .fieldref 8 18), (0, .nameAndType 19 16), (0, u "skip"), (0, .fieldref 8 21), (0, .nameAndType 22 23), (0, u "take"), (0, u "I"), (12, u "(ZJJI)V"), (4, u "()I"), (1, u "()Z"), (0, u "()J"), (3, .class_ 49), (0, u "com/example/tracebook/tracebook/model/Paging")] 22

def k10c0 : Code := { maxStack := 3, maxLocals := 7, code := prog_17_method_1_code, exceptionTable := #[], attributes := #[] }
def k10m0 : Method := { name := "<init>", desc := "(ZJJI)V", sig := { parameters := [.boolean, .long, .long, .int], returnType := none }, accessFlags := 1, code := some k10c0 }
def k10c1 : Code := { maxStack := 1, maxLocals := 1, code := prog_17_method_5_code, exceptionTable := #[], attributes := #[] }
def k10m1 : Method := { name := "backward", desc := "()Z", sig := { parameters := [], returnType := some .boolean }, accessFlags := 1, code := some k10c1 }
def k10c2 : Code := { maxStack := 2, maxLocals := 1, code := prog_17_method_6_code, exceptionTable := #[], attributes := #[] }
def k10m2 : Method := { name := "from", desc := "()J", sig := { parameters := [], returnType := some .long }, accessFlags := 1, code := some k10c2 }
def k10c3 : Code := { maxStack := 2, maxLocals := 1, code := prog_17_method_7_code, exceptionTable := #[], attributes := #[] }
def k10m3 : Method := { name := "skip", desc := "()J", sig := { parameters := [], returnType := some .long }, accessFlags := 1, code := some k10c3 }
def k10c4 : Code := { maxStack := 1, maxLocals := 1, code := prog_17_method_8_code, exceptionTable := #[], attributes := #[] }
def k10m4 : Method := { name := "take", desc := "()I", sig := { parameters := [], returnType := some .int }, accessFlags := 1, code := some k10c4 }
/-- com/example/tracebook/tracebook/model/Paging$Walk -/
def k10 : Class := { plain "com/example/tracebook/tracebook/model/Paging$Walk" (some 3) with
  accessFlags := 49
  interfaces := #[]
  cf := some (fileOf pool10 8 #[.nestHost 48] #[{ accessFlags := 1, nameIndex := 5, descriptorIndex := 36, attributes := #[] }, { accessFlags := 1, nameIndex := 11, descriptorIndex := 43, attributes := #[] }, { accessFlags := 1, nameIndex := 15, descriptorIndex := 44, attributes := #[] }, { accessFlags := 1, nameIndex := 19, descriptorIndex := 44, attributes := #[] }, { accessFlags := 1, nameIndex := 22, descriptorIndex := 41, attributes := #[] }] 49 2 #[] #[{ accessFlags := 18, nameIndex := 11, descriptorIndex := 12, attributes := #[] }, { accessFlags := 18, nameIndex := 15, descriptorIndex := 16, attributes := #[] }, { accessFlags := 18, nameIndex := 19, descriptorIndex := 16, attributes := #[] }, { accessFlags := 18, nameIndex := 22, descriptorIndex := 23, attributes := #[] }])
  fields := #[{ name := "backward", type := .boolean, accessFlags := 18, slot := 0, constantValue := 0 }, { name := "from", type := .long, accessFlags := 18, slot := 1, constantValue := 0 }, { name := "skip", type := .long, accessFlags := 18, slot := 2, constantValue := 0 }, { name := "take", type := .int, accessFlags := 18, slot := 3, constantValue := 0 }]
  methods := #[k10m0, k10m1, k10m2, k10m3, k10m4]
  instanceTypes := #[.boolean, .long, .long, .int]
  staticTypes := #[]
  resolved := Array.replicate 72 none
  statics := none }

def pool11 : Array CpInfo := pool [(1, u "java/lang/Cloneable"), (0, .class_ 1), (0, u "java/lang/Object"), (0, .class_ 3)] 3

/-- java/lang/Cloneable -/
def k11 : Class := { plain "java/lang/Cloneable" (some 0) with
  accessFlags := 1537
  interfaces := #[]
  cf := some (fileOf pool11 2 #[] #[] 1537 4 #[] #[])
  fields := #[]
  methods := #[]
  instanceTypes := #[]
  staticTypes := #[]
  resolved := Array.replicate 8 none
  statics := none }

/-- the primitive byte -/
def k12 : Class := { plain "byte" none with kind := .primitive 'B', accessFlags := 0x411 }
/-- [B -/
def k13 : Class := { plain "[B" (some 0) with kind := .array 12 .byte, interfaces := #[11, 7], accessFlags := 1041 }

/-- the primitive int -/
def k14 : Class := { plain "int" none with kind := .primitive 'I', accessFlags := 0x411 }
/-- [I -/
def k15 : Class := { plain "[I" (some 0) with kind := .array 14 .int, interfaces := #[11, 7], accessFlags := 1041 }

def heap : Heap := #[{ cls := 9, slots := #[.ref 1, .ref 2, .ref 3, .null], vm := .statics 9 },
  { cls := 9, slots := #[.null, .int 0, .int 0, .null], vm := .none },
  { cls := 9, slots := #[.null, .int 1, .int 0, .null], vm := .none },
  { cls := 9, slots := #[.null, .int 2, .int 0, .null], vm := .none }]
def classes : Array Class := #[k0, k1, k2, k3, k4, k5, k6, k7, k8, k9, k10, k11, k12, k13, k14, k15]
def interned : List (Array UInt16 × Addr) := []
def slotsUsed : Nat := 16
def theMethod : MethodId := ⟨1, 1⟩
def args0 : Array Value := #[.int 1, .int 2, .int 3, .long 4, .long 5, .long 6]
def aboutOver (below : List Frame) : State where
  vm := { classes := classes, interned := interned.toArray }
  heap := heap
  slotsUsed := slotsUsed
  threads := #[{ frames := .invoking theMethod args0 :: below }]
def below0 : List Frame := [.native { method := ⟨0, 0⟩, args := #[] }]
def about1 : State := aboutOver below0
def p0 : Program := .bare "" "" ""
def e0 : Env := launch0.env 0 0 0
theorem w_frames : about1.frames = Frame.invoking theMethod args0 :: below0 := rfl
set_option maxRecDepth 65536 in
theorem w_args : argsFit about1.vm theMethod args0 = true := by decide +kernel
set_option maxRecDepth 65536 in
theorem w_heap : heapFits about1 = true := by decide +kernel
set_option maxRecDepth 65536 in
theorem w_runnable : about1.curStatus? = some .runnable := by decide +kernel
set_option maxRecDepth 65536 in
theorem w_alone : about1.alone = true := by decide +kernel
set_option maxRecDepth 65536 in
theorem w_named : about1.methodNamed? x = some theMethod := by decide +kernel
set_option maxRecDepth 65536 in
theorem w_hears : about1.hears theMethod below0 = true := by decide +kernel
set_option maxRecDepth 65536 in
theorem w_ripe : about1.ripe theMethod args0 below0 = true := by decide +kernel
theorem w_running : about1.status = .running := rfl
set_option maxRecDepth 65536 in
theorem w_room : about1.hasRoom e0.platform room_1 = true :=
  launch0.hasRoom_least _ room_1 (by decide +kernel) (by decide +kernel) (by decide +kernel) (by decide +kernel) (by decide +kernel) (by decide +kernel)
theorem allAtoms_all (ts : List Jvm.Cond) (a : Array Jvm.Value) (st : Jvm.State) : (allAtoms ts).before a st = ts.all (fun c => c.before a st) := by
  induction ts with
  | nil => rfl
  | cons c t ih =>
    show (Jvm.Cond.and c (allAtoms t)).before a st = _
    rw [Jvm.Cond.before_and, ih, List.all_cons]
def words1 : List Jvm.Cond := Jvm.Cond.code x code maxLocals ret :: tables_1
/-- a 'code' word, met by the world's own term for the bytes: nothing is compared byte by byte -/
theorem code_word {y : MethodName} {bytes : ByteArray} {mx : Nat} {rt : Option FieldType} {a : Array Value} {s : State} {m : MethodId} {meth : Method} {c : Code} (h1 : s.methodNamed? y = some m) (h2 : s.vm.method? m = some meth) (h3 : meth.code = some c) (h4 : c.code = bytes)
    (h5 : (c.maxLocals == mx && c.exceptionTable.isEmpty && decide (c.maxStack ≤ mostOperands) && decide (meth.sig.returnType = rt) && !meth.locks && decide (parseMethodDescriptor y.desc = some meth.sig)) = true) : (Jvm.Cond.code y bytes mx rt).before a s = true := by
  simp only [Bool.and_eq_true, beq_iff_eq, Bool.not_eq_true', decide_eq_true_eq] at h5
  obtain ⟨⟨⟨⟨⟨g1, g2⟩, g3⟩, g4⟩, g5⟩, g6⟩ := h5
  simp [Cond.before, Cond.holds, Cond.value, h1, h2, h3, h4, g1, g2, g3, g4, g5, g6]
def isCode : Jvm.Cond → Bool
  | .code _ _ _ _ => true
  | _ => false
theorem all_split {L : List Jvm.Cond} {P : Jvm.Cond → Bool} (h1 : L.all (fun c => isCode c || P c) = true) (h2 : ∀ c ∈ L.filter isCode, P c = true) : L.all P = true := by
  refine List.all_eq_true.mpr fun c hc => ?_
  have h := List.all_eq_true.mp h1 c hc
  rcases Bool.eq_false_or_eq_true (isCode c) with hi | hi
  · exact h2 c (List.mem_filter.mpr ⟨hc, hi⟩)
  · simpa [hi] using h
set_option maxRecDepth 65536 in
theorem w_c0 : (Jvm.Cond.code x code maxLocals ret).before args0 about1 = true := code_word (m := ⟨1, 1⟩) (meth := k1m1) (c := k1c1) (by decide +kernel) rfl rfl rfl (by decide +kernel)
set_option maxRecDepth 65536 in
theorem w_c1 : (Jvm.Cond.code ({ cls := "java/lang/Math", name := "max", desc := "(II)I" } : Jvm.MethodName) jdk_29_method_65_code (2 : Nat) (Option.some Jvm.ClassFile.FieldType.int)).before args0 about1 = true := code_word (m := ⟨2, 1⟩) (meth := k2m1) (c := k2c1) (by decide +kernel) rfl rfl rfl (by decide +kernel)
set_option maxRecDepth 65536 in
theorem w_c2 : (Jvm.Cond.code ({ cls := "java/lang/Math", name := "max", desc := "(JJ)J" } : Jvm.MethodName) jdk_29_method_66_code (4 : Nat) (Option.some Jvm.ClassFile.FieldType.long)).before args0 about1 = true := code_word (m := ⟨2, 2⟩) (meth := k2m2) (c := k2c2) (by decide +kernel) rfl rfl rfl (by decide +kernel)
set_option maxRecDepth 65536 in
theorem w_c3 : (Jvm.Cond.code ({ cls := "com/example/tracebook/tracebook/model/Paging", name := "<init>", desc := "(Lcom/example/tracebook/tracebook/model/Paging$Type;ZIJJ)V" } : Jvm.MethodName) prog_14_method_1_code (8 : Nat) (Option.none : Option Jvm.ClassFile.FieldType)).before args0 about1 = true := code_word (m := ⟨4, 0⟩) (meth := k4m0) (c := k4c0) (by decide +kernel) rfl rfl rfl (by decide +kernel)
set_option maxRecDepth 65536 in
theorem w_c4 : (Jvm.Cond.code ({ cls := "java/lang/Record", name := "<init>", desc := "()V" } : Jvm.MethodName) jdk_30_method_1_code (1 : Nat) (Option.none : Option Jvm.ClassFile.FieldType)).before args0 about1 = true := code_word (m := ⟨3, 0⟩) (meth := k3m0) (c := k3c0) (by decide +kernel) rfl rfl rfl (by decide +kernel)
set_option maxRecDepth 65536 in
theorem w_c5 : (Jvm.Cond.code ({ cls := "java/lang/Object", name := "<init>", desc := "()V" } : Jvm.MethodName) object_method_1_code (1 : Nat) (Option.none : Option Jvm.ClassFile.FieldType)).before args0 about1 = true := code_word (m := ⟨0, 0⟩) (meth := k0m0) (c := k0c0) (by decide +kernel) rfl rfl rfl (by decide +kernel)
set_option maxRecDepth 65536 in
theorem w_c6 : (Jvm.Cond.code ({ cls := "com/example/tracebook/tracebook/model/Paging", name := "walk", desc := "(J)Lcom/example/tracebook/tracebook/model/Paging$Walk;" } : Jvm.MethodName) prog_14_method_2_code (12 : Nat) (Option.some (Jvm.ClassFile.FieldType.object "com/example/tracebook/tracebook/model/Paging$Walk"))).before args0 about1 = true := code_word (m := ⟨4, 1⟩) (meth := k4m1) (c := k4c1) (by decide +kernel) rfl rfl rfl (by decide +kernel)
set_option maxRecDepth 65536 in
theorem w_c7 : (Jvm.Cond.code ({ cls := "java/lang/Enum", name := "ordinal", desc := "()I" } : Jvm.MethodName) jdk_37_method_2_code (1 : Nat) (Option.some Jvm.ClassFile.FieldType.int)).before args0 about1 = true := code_word (m := ⟨8, 0⟩) (meth := k8m0) (c := k8c0) (by decide +kernel) rfl rfl rfl (by decide +kernel)
set_option maxRecDepth 65536 in
theorem w_c8 : (Jvm.Cond.code ({ cls := "com/example/tracebook/tracebook/model/Paging$Walk", name := "<init>", desc := "(ZJJI)V" } : Jvm.MethodName) prog_17_method_1_code (7 : Nat) (Option.none : Option Jvm.ClassFile.FieldType)).before args0 about1 = true := code_word (m := ⟨10, 0⟩) (meth := k10m0) (c := k10c0) (by decide +kernel) rfl rfl rfl (by decide +kernel)
set_option maxRecDepth 65536 in
theorem w_c9 : (Jvm.Cond.code ({ cls := "com/example/tracebook/tracebook/model/Paging$Walk", name := "backward", desc := "()Z" } : Jvm.MethodName) prog_17_method_5_code (1 : Nat) (Option.some Jvm.ClassFile.FieldType.boolean)).before args0 about1 = true := code_word (m := ⟨10, 1⟩) (meth := k10m1) (c := k10c1) (by decide +kernel) rfl rfl rfl (by decide +kernel)
set_option maxRecDepth 65536 in
theorem w_c10 : (Jvm.Cond.code ({ cls := "com/example/tracebook/tracebook/model/Paging$Walk", name := "from", desc := "()J" } : Jvm.MethodName) prog_17_method_6_code (1 : Nat) (Option.some Jvm.ClassFile.FieldType.long)).before args0 about1 = true := code_word (m := ⟨10, 2⟩) (meth := k10m2) (c := k10c2) (by decide +kernel) rfl rfl rfl (by decide +kernel)
set_option maxRecDepth 65536 in
theorem w_c11 : (Jvm.Cond.code ({ cls := "com/example/tracebook/tracebook/model/Paging$Walk", name := "skip", desc := "()J" } : Jvm.MethodName) prog_17_method_7_code (1 : Nat) (Option.some Jvm.ClassFile.FieldType.long)).before args0 about1 = true := code_word (m := ⟨10, 3⟩) (meth := k10m3) (c := k10c3) (by decide +kernel) rfl rfl rfl (by decide +kernel)
set_option maxRecDepth 65536 in
theorem w_c12 : (Jvm.Cond.code ({ cls := "com/example/tracebook/tracebook/model/Paging$Walk", name := "take", desc := "()I" } : Jvm.MethodName) prog_17_method_8_code (1 : Nat) (Option.some Jvm.ClassFile.FieldType.int)).before args0 about1 = true := code_word (m := ⟨10, 4⟩) (meth := k10m4) (c := k10c4) (by decide +kernel) rfl rfl rfl (by decide +kernel)
set_option maxRecDepth 65536 in
theorem w_c13 : (Jvm.Cond.code ({ cls := "java/lang/Math", name := "min", desc := "(JJ)J" } : Jvm.MethodName) jdk_29_method_70_code (4 : Nat) (Option.some Jvm.ClassFile.FieldType.long)).before args0 about1 = true := code_word (m := ⟨2, 3⟩) (meth := k2m3) (c := k2c3) (by decide +kernel) rfl rfl rfl (by decide +kernel)
def codes1 : List Jvm.Cond := [Jvm.Cond.code x code maxLocals ret, Jvm.Cond.code ({ cls := "java/lang/Math", name := "max", desc := "(II)I" } : Jvm.MethodName) jdk_29_method_65_code (2 : Nat) (Option.some Jvm.ClassFile.FieldType.int), Jvm.Cond.code ({ cls := "java/lang/Math", name := "max", desc := "(JJ)J" } : Jvm.MethodName) jdk_29_method_66_code (4 : Nat) (Option.some Jvm.ClassFile.FieldType.long), Jvm.Cond.code ({ cls := "com/example/tracebook/tracebook/model/Paging", name := "<init>", desc := "(Lcom/example/tracebook/tracebook/model/Paging$Type;ZIJJ)V" } : Jvm.MethodName) prog_14_method_1_code (8 : Nat) (Option.none : Option Jvm.ClassFile.FieldType), Jvm.Cond.code ({ cls := "java/lang/Record", name := "<init>", desc := "()V" } : Jvm.MethodName) jdk_30_method_1_code (1 : Nat) (Option.none : Option Jvm.ClassFile.FieldType), Jvm.Cond.code ({ cls := "java/lang/Object", name := "<init>", desc := "()V" } : Jvm.MethodName) object_method_1_code (1 : Nat) (Option.none : Option Jvm.ClassFile.FieldType), Jvm.Cond.code ({ cls := "com/example/tracebook/tracebook/model/Paging", name := "walk", desc := "(J)Lcom/example/tracebook/tracebook/model/Paging$Walk;" } : Jvm.MethodName) prog_14_method_2_code (12 : Nat) (Option.some (Jvm.ClassFile.FieldType.object "com/example/tracebook/tracebook/model/Paging$Walk")), Jvm.Cond.code ({ cls := "java/lang/Enum", name := "ordinal", desc := "()I" } : Jvm.MethodName) jdk_37_method_2_code (1 : Nat) (Option.some Jvm.ClassFile.FieldType.int), Jvm.Cond.code ({ cls := "com/example/tracebook/tracebook/model/Paging$Walk", name := "<init>", desc := "(ZJJI)V" } : Jvm.MethodName) prog_17_method_1_code (7 : Nat) (Option.none : Option Jvm.ClassFile.FieldType), Jvm.Cond.code ({ cls := "com/example/tracebook/tracebook/model/Paging$Walk", name := "backward", desc := "()Z" } : Jvm.MethodName) prog_17_method_5_code (1 : Nat) (Option.some Jvm.ClassFile.FieldType.boolean), Jvm.Cond.code ({ cls := "com/example/tracebook/tracebook/model/Paging$Walk", name := "from", desc := "()J" } : Jvm.MethodName) prog_17_method_6_code (1 : Nat) (Option.some Jvm.ClassFile.FieldType.long), Jvm.Cond.code ({ cls := "com/example/tracebook/tracebook/model/Paging$Walk", name := "skip", desc := "()J" } : Jvm.MethodName) prog_17_method_7_code (1 : Nat) (Option.some Jvm.ClassFile.FieldType.long), Jvm.Cond.code ({ cls := "com/example/tracebook/tracebook/model/Paging$Walk", name := "take", desc := "()I" } : Jvm.MethodName) prog_17_method_8_code (1 : Nat) (Option.some Jvm.ClassFile.FieldType.int), Jvm.Cond.code ({ cls := "java/lang/Math", name := "min", desc := "(JJ)J" } : Jvm.MethodName) jdk_29_method_70_code (4 : Nat) (Option.some Jvm.ClassFile.FieldType.long)]
set_option maxRecDepth 65536 in
theorem codes_eq : words1.filter isCode = codes1 := rfl
theorem w_codes : ∀ c ∈ words1.filter isCode, c.before args0 about1 = true := by
  rw [codes_eq]
  intro c hc
  simp only [codes1, List.mem_cons, List.not_mem_nil, or_false] at hc
  rcases hc with rfl | rfl | rfl | rfl | rfl | rfl | rfl | rfl | rfl | rfl | rfl | rfl | rfl | rfl
  · exact w_c0
  · exact w_c1
  · exact w_c2
  · exact w_c3
  · exact w_c4
  · exact w_c5
  · exact w_c6
  · exact w_c7
  · exact w_c8
  · exact w_c9
  · exact w_c10
  · exact w_c11
  · exact w_c12
  · exact w_c13
set_option maxRecDepth 65536 in
theorem w_t1 : (words1.take 24).all (fun c => isCode c || c.before args0 about1) = true := by decide +kernel
set_option maxRecDepth 65536 in
theorem w_t2 : ((words1.drop 24).take 24).all (fun c => isCode c || c.before args0 about1) = true := by decide +kernel
set_option maxRecDepth 65536 in
theorem w_t3 : (((words1.drop 24).drop 24).take 24).all (fun c => isCode c || c.before args0 about1) = true := by decide +kernel
set_option maxRecDepth 65536 in
theorem w_t4 : (((words1.drop 24).drop 24).drop 24).all (fun c => isCode c || c.before args0 about1) = true := by decide +kernel
theorem w_tables : (allAtoms (Jvm.Cond.code x code maxLocals ret :: tables_1)).before args0 about1 = true := by
  rw [allAtoms_all]
  show words1.all (fun c => c.before args0 about1) = true
  refine all_split ?_ w_codes
  rw [← List.take_append_drop 24 words1, List.all_append, w_t1, ← List.take_append_drop 24 (words1.drop 24), List.all_append, w_t2, ← List.take_append_drop 24 ((words1.drop 24).drop 24), List.all_append, w_t3, w_t4]
  rfl
set_option maxRecDepth 65536 in
theorem w_case : (Jvm.Cond.and given_1 narrow_1).before args0 about1 = true := by decide +kernel
theorem w_applies : (headSpec (Jvm.Cond.code x code maxLocals ret :: tables_1) room_1).applies x e0.platform about1 = true :=
  (Spec.applies_iff w_frames).mpr ⟨w_running, w_runnable, w_alone, w_named, w_hears, w_ripe, w_room, w_tables⟩
theorem atStart : AtStart classFile x code maxLocals ret World_1 tables_1 room_1 Calls_1 rest_1 Pre_1 launch0 p0 e0 about1 theMethod args0 below0 :=
  ⟨lists_1, trivial, launch0.admits_env _ _ _, launch0.least_env, fairChoices_fair.cas, fairChoices_fair.clock, w_frames, w_args, w_heap, w_applies, trivial, trivial, w_case⟩
end start1
theorem witness_1 : WitnessClaimed_1 := ⟨start1.p0, start1.e0, start1.about1, start1.theMethod, start1.args0, start1.below0, start1.atStart⟩
end Jvm.Pilot.@@N@@
