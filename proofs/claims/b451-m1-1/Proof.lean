import JvmDerived
import JvmDerived.Pilot.@@N@@Statement
import JvmDerived.Pilot.@@N@@Code
set_option linter.unusedVariables false
set_option linter.unusedSimpArgs false
namespace Jvm.RoadKit
open Sem ClassFile Op Lib Jvm.Stand Jvm.Free Jvm.LawKit
section New
variable {p : Program} {l : Launch} {e : Env} {R : Room} {s : State} {m : MethodId} {args : Array Value} {below : List Frame} {meth : Method} {c : Code} {T : State} {locs : List Loc} {cells slots : Nat}
theorem retI (X : Stand p l e R s m args below meth c T locs cells slots) (hx : p.tables.exec = Jvm.exec) {pc : Nat} {Ls : Array Slot} {z : Int32} {rest : List Value} (hret : meth.sig.returnType = some .int) (hd : decode c.code pc = .ok (.ireturn, 1)) {fs : List Frame}
    (hl : ∀ (f : JFrame) (acts : List Action), f.method = m → f.locked = none → f.entered = [] → (doReturn e (T.setTop f) acts (some (.int z))).1 = T.setFrames fs) : Steps p.tables e below (T.setTop (mkF m pc Ls (.int z :: rest))) (T.setFrames fs) :=
  retOut X hx hret rfl (Or.inl ⟨rfl, Or.inl rfl, z, rfl⟩) hd hl
theorem retJ (X : Stand p l e R s m args below meth c T locs cells slots) (hx : p.tables.exec = Jvm.exec) {pc : Nat} {Ls : Array Slot} {z : Int64} {rest : List Value} (hret : meth.sig.returnType = some .long) (hd : decode c.code pc = .ok (.lreturn, 1)) {fs : List Frame}
    (hl : ∀ (f : JFrame) (acts : List Action), f.method = m → f.locked = none → f.entered = [] → (doReturn e (T.setTop f) acts (some (.long z))).1 = T.setFrames fs) : Steps p.tables e below (T.setTop (mkF m pc Ls (.long z :: rest))) (T.setFrames fs) :=
  retOut X hx hret rfl (Or.inr (Or.inl ⟨rfl, rfl, z, rfl⟩)) hd hl
theorem retA (X : Stand p l e R s m args below meth c T locs cells slots) (hx : p.tables.exec = Jvm.exec) {pc : Nat} {Ls : Array Slot} {w : Value} {rest : List Value} {t : FieldType} (hret : meth.sig.returnType = some t) (ht : t.isReference = true) (hn : narrow t w = w) (hw : w.isRef = true) (hd : decode c.code pc = .ok (.areturn, 1)) {fs : List Frame}
    (hl : ∀ (f : JFrame) (acts : List Action), f.method = m → f.locked = none → f.entered = [] → (doReturn e (T.setTop f) acts (some w)).1 = T.setFrames fs) : Steps p.tables e below (T.setTop (mkF m pc Ls (w :: rest))) (T.setFrames fs) :=
  retOut X hx hret hn (Or.inr (Or.inr (Or.inr (Or.inr ⟨rfl, ht, hw⟩)))) hd hl
end New
end Jvm.RoadKit
namespace Jvm.Pilot.@@N@@
open Jvm Jvm.ClassFile Sem Op Lib Jvm.Free Jvm.Stand Jvm.LawKit Jvm.RoadKit Bundle Jvm.Pilot.@@N@@.Jvm.D
theorem own_ext {h0 h : Heap} (K : Keep h0 h []) : Ext h0 h := ⟨K.1, fun a c q => K.2.1 a c q nin0⟩

theorem own_ladd {x y : Int64} {a b : Int} (hx : x.toInt = a) (hy : y.toInt = b) (h1 : -9223372036854775808 ≤ a + b) (h2 : a + b < 9223372036854775808) : (x + y).toInt = a + b := by
  have h := c_ladd x y; have r := rng64 (x + y); rw [hx, hy] at h; omega
theorem own_lsub {x y : Int64} {a b : Int} (hx : x.toInt = a) (hy : y.toInt = b) (h1 : -9223372036854775808 ≤ a - b) (h2 : a - b < 9223372036854775808) : (x - y).toInt = a - b := by
  have h := c_lsub x y; have r := rng64 (x - y); rw [hx, hy] at h; omega
theorem own_lmul {x y : Int64} {a b : Int} (hx : x.toInt = a) (hy : y.toInt = b) (h1 : -9223372036854775808 ≤ a * b) (h2 : a * b < 9223372036854775808) : (x * y).toInt = a * b := by
  have h := c_lmul x y; have r := rng64 (x * y); rw [hx, hy] at h; omega
theorem own_ldiv {x y : Int64} {a : Int} (d : Int) (hx : x.toInt = a) (hy : y.toInt = d) (h0 : 0 ≤ a) (h1 : y ≠ -1) : (x / y).toInt = a / d := by
  have h := (c_ldiv x y d hy h1).1 (by omega); rw [hx] at h; exact h

def own_max (x y : Int32) : Int32 := if x < y then y else x
def own_ceil (x : Int64) : Int64 := if x < (0 : Int64) then x / (100 : Int64) else (x + (99 : Int64)) / (100 : Int64)
def own_met (c o a q : Int32) : Int32 := if c = (0 : Int32) then 0 else if q = (0 : Int32) then (if c < a then 0 else 1) else (if ((100 : Int64) * c.toInt64) < (a.toInt64 * o.toInt64) then 0 else 1)
theorem own_am1 (x : Int32) : 1 ≤ ((1 : Int32) + ((x &&& (2147483647 : Int32)) % (100 : Int32))).toInt ∧ ((1 : Int32) + ((x &&& (2147483647 : Int32)) % (100 : Int32))).toInt ≤ 100 := by
  have h1 := (c_and x (2147483647 : Int32) (by decide)).1
  have h2 := (c_irem (x &&& (2147483647 : Int32)) 100 100 (by decide)).1 h1
  have h3 := c_iadd 1 ((x &&& (2147483647 : Int32)) % (100 : Int32))
  have h4 : (1 : Int32).toInt = 1 := by decide
  have h5 := rng32 ((1 : Int32) + ((x &&& (2147483647 : Int32)) % (100 : Int32)))
  omega
theorem own_am0 (x : Int32) : 1 ≤ (own_max (1 : Int32) (x &&& (2147483647 : Int32))).toInt := by
  have h4 : (1 : Int32).toInt = 1 := by decide
  unfold own_max
  split
  · rename_i h; rw [Int32.lt_iff_toInt_lt] at h; omega
  · omega
theorem own_ge1 {a : Int32} (h : 1 ≤ a.toInt) : ¬ (a < (1 : Int32)) := by
  have h4 : (1 : Int32).toInt = 1 := by decide
  rw [Int32.lt_iff_toInt_lt]; omega
theorem own_le100 {a : Int32} (h : a.toInt ≤ 100) : ¬ ((100 : Int32) < a) := by
  have h4 : (100 : Int32).toInt = 100 := by decide
  rw [Int32.lt_iff_toInt_lt]; omega
theorem own_iff {c o a : Int32} (h1 : 1 ≤ a.toInt) (h2 : a.toInt ≤ 100) : c.toInt64 < own_ceil (a.toInt64 * o.toInt64) ↔ ((100 : Int64) * c.toInt64) < (a.toInt64 * o.toInt64) := by
  have k0 : (0 : Int64).toInt = 0 := by decide
  have k99 : (99 : Int64).toInt = 99 := by decide
  have k100 : (100 : Int64).toInt = 100 := by decide
  have rc := rng32 c
  have ro := rng32 o
  have m1 : a.toInt * o.toInt ≤ 100 * 2147483648 := by
    have := (mc (a := a.toInt) (b := o.toInt) h1 h2 ro.1 (by omega : o.toInt ≤ 2147483648)); omega
  have m2 : -(100 * 2147483648) ≤ a.toInt * o.toInt := by
    have := (mc (a := a.toInt) (b := o.toInt) h1 h2 ro.1 (by omega : o.toInt ≤ 2147483648)); omega
  have e1 := own_lmul (c_i2l a) (c_i2l o) (by omega) (by omega)
  have e2 := own_lmul k100 (c_i2l c) (by omega) (by omega)
  generalize a.toInt * o.toInt = y at *
  generalize hx : a.toInt64 * o.toInt64 = x at *
  unfold own_ceil
  simp only [Int64.lt_iff_toInt_lt, e1, e2, k0, c_i2l]
  split
  · have := (c_ldiv x 100 100 k100 (by decide)).2 (by omega)
    rw [this]; omega
  · have e3 := own_ladd e1 k99 (by omega) (by omega)
    have e4 := own_ldiv 100 e3 k100 (by omega) (by decide)
    rw [e4]; omega
theorem own_pn0 : plainName "java/lang/Record" = true := by first | (simp [plainName, overriddenIn]; done) | decide +kernel
theorem own_d2_0 : decode jdk_30_method_1_code 0 = .ok (.aload_n 0, 1) := by decide +kernel
theorem own_d2_1 : decode jdk_30_method_1_code 1 = .ok (.invokespecial 1, 3) := by decide +kernel
theorem own_d2_4 : decode jdk_30_method_1_code 4 = .ok (.return_, 1) := by decide +kernel
def own_Q2 (Z : State) (xthis : Addr) (h0 : Heap) (n0 : Nat) (v : Option Value) (h : Heap) (L : List Loc) : Prop := v = none ∧ Fr n0 L ∧ h = h0
theorem own_ef2 (m : MethodId) (xthis : Addr) : entryFrame m #[(.ref xthis)] 1 = mkF m 0 #[.val (.ref xthis)] [] := by first | (simp [entryFrame, mkF, argsToLocals, Value.category]; done) | rfl
set_option maxRecDepth 65536 in
set_option maxHeartbeats 40000000 in
theorem own_rm2 (l : Launch) (Z : State) (a0 : Array Value) (hw : ∀ d ∈ tables_1, d.before a0 Z = true) (ws : List Jvm.Cond) (xthis : Addr) (h0 : Heap) (n0 : Nat) (Z0 : n0 ≤ h0.size)  :
    MetFree l (⟨"java/lang/Record", "<init>", "()V"⟩ : MethodName) (head1 (Jvm.Cond.code (⟨"java/lang/Record", "<init>", "()V"⟩ : MethodName) jdk_30_method_1_code 1 none :: ws) ({ frames := 1, cells := 0, slots := 0, locals := 12 } : Room)) (fun a U => a = #[(.ref xthis)] ∧ Z.Warmed39 U.vm ∧ U.heap = h0) (fun _ _ _ _ _ => True) (fun _ U o U' => ∃ v L, o = .returned v ∧ own_Q2 Z xthis h0 n0 v U'.heap L ∧ FrameEnd U o U' L ({ frames := 1, cells := 0, slots := 0, locals := 12 } : Room).cells ({ frames := 1, cells := 0, slots := 0, locals := 12 } : Room).slots) := by
  refine MetFree.of_bodySF (plainFor_of_name own_pn0) hisR ?_
  intro p e s m args below meth c s₁ Bd hml0 hP hK
  obtain ⟨rfl, hZ, hh⟩ := hP
  have hx := Bd.exec
  have hby := Bd.bytes
  have hml : c.maxLocals = 1 := hml0
  have hown : s.vm.findClass "java/lang/Record" = some m.cls := findClass_of_methodNamed Bd.named
  have hnm := (name_of_methodNamed Bd.named Bd.method).1
  have X0 : Stand p l e ({ frames := 1, cells := 0, slots := 0, locals := 12 } : Room) s m #[(.ref xthis)] below meth c s₁ [] 0 0 := Stand.of_body Bd
  have e0 : s₁.heap = h0 := by rw [← hh, Bd.state]; rfl
  have N0 := Fr.nil n0
  have pre0 : ∀ t, Steps p.tables e below (s₁.setTop (mkF m 0 #[.val (.ref xthis)] [])) t → Steps p.tables e below (s₁.setTop (entryFrame m #[(.ref xthis)] 1)) t := fun t k => castTop (own_ef2 m xthis) k
  obtain ⟨T1, X1, e1, st1⟩ := initO X0 hx hZ hown (hw _ (List.mem_of_getElem? (i := 12) rfl)) (hw _ (List.mem_of_getElem? (i := 13) rfl)) (hw _ (List.mem_of_getElem? (i := 14) rfl)) e0 (g := (mkF m 1 #[.val (.ref xthis)] [(.ref xthis)])) rfl (by rw [hml]; rfl) rfl (hb hby own_d2_1) (by decide) (W := 0) (by show 2 * 0 + _ ≤ _; exact Nat.le_of_eq rfl) (by decide)
  obtain ⟨fs, hr, hrun, hended, hW, hsame⟩ := X1.leave (v := none) (fun _ => rfl)
  refine ⟨_, _, pre0 _ ?_, hrun, hended, _, _, rfl, ?_, ⟨_, rfl⟩, hW, hsame.mono (by decide) (by decide)⟩
  · show Steps p.tables e below (s₁.setTop (mkF m 0 #[.val (.ref xthis)] [])) _
    refine XS.aloadN X0.here hx rfl (hb hby own_d2_0) rfl rfl ?_
    show Steps p.tables e below (s₁.setTop (mkF m 1 #[.val (.ref xthis)] [(.ref xthis)])) _
    refine st1 _ ?_
    show Steps p.tables e below (T1.setTop (mkF m 4 #[.val (.ref xthis)] [])) _
    exact X1.returnOut hx Bd.returns (hb hby own_d2_4) hr
  · show own_Q2 Z xthis h0 n0 _ T1.heap _
    rw [e1]
    exact ⟨rfl, N0, rfl⟩
theorem own_pn1 : plainName "com/example/heronbeck/heronbeck/model/AtLeast" = true := by first | (simp [plainName, overriddenIn]; done) | decide +kernel
theorem own_pd0 : parseMethodDescriptor "()V" = some ⟨[], none⟩ := by decide +kernel
theorem own_d1_0 : decode prog_27_method_1_code 0 = .ok (.aload_n 0, 1) := by decide +kernel
theorem own_d1_1 : decode prog_27_method_1_code 1 = .ok (.invokespecial 1, 3) := by decide +kernel
theorem own_d1_4 : decode prog_27_method_1_code 4 = .ok (.iload_n 1, 1) := by decide +kernel
theorem own_d1_5 : decode prog_27_method_1_code 5 = .ok (.iconst 1, 1) := by decide +kernel
theorem own_d1_6 : decode prog_27_method_1_code 6 = .ok (.if_icmp .lt 13, 3) := by decide +kernel
theorem own_d1_9 : decode prog_27_method_1_code 9 = .ok (.iload_n 2, 1) := by decide +kernel
theorem own_d1_10 : decode prog_27_method_1_code 10 = .ok (.ifCond .eq 34, 3) := by decide +kernel
theorem own_d1_13 : decode prog_27_method_1_code 13 = .ok (.iload_n 1, 1) := by decide +kernel
theorem own_d1_14 : decode prog_27_method_1_code 14 = .ok (.bipush 100, 2) := by decide +kernel
theorem own_d1_16 : decode prog_27_method_1_code 16 = .ok (.if_icmp .le 28, 3) := by decide +kernel
theorem own_d1_44 : decode prog_27_method_1_code 44 = .ok (.aload_n 0, 1) := by decide +kernel
theorem own_d1_45 : decode prog_27_method_1_code 45 = .ok (.iload_n 1, 1) := by decide +kernel
theorem own_d1_46 : decode prog_27_method_1_code 46 = .ok (.putfield 20, 3) := by decide +kernel
theorem own_d1_49 : decode prog_27_method_1_code 49 = .ok (.aload_n 0, 1) := by decide +kernel
theorem own_d1_50 : decode prog_27_method_1_code 50 = .ok (.iload_n 2, 1) := by decide +kernel
theorem own_d1_51 : decode prog_27_method_1_code 51 = .ok (.putfield 26, 3) := by decide +kernel
theorem own_d1_54 : decode prog_27_method_1_code 54 = .ok (.return_, 1) := by decide +kernel
def own_Q1 (Z : State) (xthis : Addr) (x1 : Int32) (x2 : Int32) (h0 : Heap) (n0 : Nat) (v : Option Value) (h : Heap) (L : List Loc) : Prop := v = none ∧ Fr n0 L ∧ Keep h0 h [xthis] ∧ Exa Z h xthis "com/example/heronbeck/heronbeck/model/AtLeast" ∧ Fld Z h xthis "com/example/heronbeck/heronbeck/model/AtLeast" "amount" "I" (.int x1) ∧ Fld Z h xthis "com/example/heronbeck/heronbeck/model/AtLeast" "percent" "Z" (.int (x2 &&& 1))
theorem own_ef1 (m : MethodId) (xthis : Addr) (x1 : Int32) (x2 : Int32) : entryFrame m #[(.ref xthis), (.int x1), (.int x2)] 3 = mkF m 0 #[.val (.ref xthis), .val (.int x1), .val (.int x2)] [] := by first | (simp [entryFrame, mkF, argsToLocals, Value.category]; done) | rfl
set_option maxRecDepth 65536 in
set_option maxHeartbeats 40000000 in
theorem own_rm1 (l : Launch) (Z : State) (a0 : Array Value) (hw : ∀ d ∈ tables_1, d.before a0 Z = true) (ws : List Jvm.Cond) (xthis : Addr) (x1 : Int32) (x2 : Int32) (h0 : Heap) (n0 : Nat) (Z0 : n0 ≤ h0.size) (E_xthis : Exa Z h0 xthis "com/example/heronbeck/heronbeck/model/AtLeast") (F_amount_xthis : Fld Z h0 xthis "com/example/heronbeck/heronbeck/model/AtLeast" "amount" "I" (.int (0 : Int32))) (F_percent_xthis : Fld Z h0 xthis "com/example/heronbeck/heronbeck/model/AtLeast" "percent" "Z" (.int (0 : Int32))) (g_xthis : n0 ≤ xthis) (hok1 : ¬ (x1 < (1 : Int32))) (hok2 : x2 = (0 : Int32) ∨ ¬ ((100 : Int32) < x1)) :
    MetFree l (⟨"com/example/heronbeck/heronbeck/model/AtLeast", "<init>", "(IZ)V"⟩ : MethodName) (head1 (Jvm.Cond.code (⟨"com/example/heronbeck/heronbeck/model/AtLeast", "<init>", "(IZ)V"⟩ : MethodName) prog_27_method_1_code 3 none :: ws) ({ frames := 2, cells := 0, slots := 0, locals := 24 } : Room)) (fun a U => a = #[(.ref xthis), (.int x1), (.int x2)] ∧ Z.Warmed39 U.vm ∧ U.heap = h0) (fun _ _ _ _ _ => True) (fun _ U o U' => ∃ v L, o = .returned v ∧ own_Q1 Z xthis x1 x2 h0 n0 v U'.heap L ∧ FrameEnd U o U' L ({ frames := 2, cells := 0, slots := 0, locals := 24 } : Room).cells ({ frames := 2, cells := 0, slots := 0, locals := 24 } : Room).slots) := by
  refine MetFree.of_bodySF (plainFor_of_name own_pn1) hisR ?_
  intro p e s m args below meth c s₁ Bd hml0 hP hK
  obtain ⟨rfl, hZ, hh⟩ := hP
  have hx := Bd.exec
  have hby := Bd.bytes
  have hml : c.maxLocals = 3 := hml0
  have hown : s.vm.findClass "com/example/heronbeck/heronbeck/model/AtLeast" = some m.cls := findClass_of_methodNamed Bd.named
  have hnm := (name_of_methodNamed Bd.named Bd.method).1
  have X0 : Stand p l e ({ frames := 2, cells := 0, slots := 0, locals := 24 } : Room) s m #[(.ref xthis), (.int x1), (.int x2)] below meth c s₁ [] 0 0 := Stand.of_body Bd
  have e0 : s₁.heap = h0 := by rw [← hh, Bd.state]; rfl
  have N0 := Fr.nil n0
  have pre0 : ∀ t, Steps p.tables e below (s₁.setTop (mkF m 0 #[.val (.ref xthis), .val (.int x1), .val (.int x2)] [])) t → Steps p.tables e below (s₁.setTop (entryFrame m #[(.ref xthis), (.int x1), (.int x2)] 3)) t := fun t k => castTop (own_ef1 m xthis x1 x2) k
  have K0 : Keep h0 h0 [xthis] := Keep.refl _ _
  obtain ⟨_, _, ⟨T1, L1, k1, n1⟩, -, X1, ⟨Lc1, hQ1, l1, y1, z1⟩, st1⟩ := X0.specialBack hx (y := (⟨"java/lang/Record", "<init>", "()V"⟩ : MethodName)) rfl hown (mvT hZ (hw _ (List.mem_of_getElem? (i := 7) rfl))) (mvT hZ (hw _ (List.mem_of_getElem? (i := 8) rfl))) (mvT hZ (hw _ (List.mem_of_getElem? (i := 11) rfl))) (by decide) (backOf (W := 0) (own_rm2 l Z a0 hw [] xthis h0 n0 Z0 ) hZ (hw _ (List.mem_of_getElem? (i := 11) rfl)) (hw _ (List.mem_of_getElem? (i := 10) rfl)) (by decide) (by decide)) (g := (mkF m 1 #[.val (.ref xthis), .val (.int x1), .val (.int x2)] [(.ref xthis)])) rfl (by rw [hml]; rfl) (Steps.refl _) (a := xthis) (argsL := []) (rest := []) (lenOf own_pd0 rfl) rfl (by show 2 * 0 + _ ≤ _; exact Nat.le_of_eq rfl) (hb hby own_d1_1) (fun _ _ => ⟨rfl, e0, (by decide : 0 + 0 ≤ _), (by decide : 0 + 0 ≤ _)⟩)
  dsimp only [Pt.U, Pt.locs, Pt.cells, Pt.slots] at X1 l1 y1 z1 st1 hQ1
  subst l1 y1 z1
  obtain ⟨rfl, N1q, eh1⟩ := hQ1
  have N1 := Fr.app N0 N1q
  have pre2 : ∀ t, Steps p.tables e below (T1.setTop (mkF m 10 #[.val (.ref xthis), .val (.int x1), .val (.int x2)] [(.int x2)])) t → Steps p.tables e below (s₁.setTop (entryFrame m #[(.ref xthis), (.int x1), (.int x2)] 3)) t := by
    intro t k
    refine pre0 _ ?_
    show Steps p.tables e below (s₁.setTop (mkF m 0 #[.val (.ref xthis), .val (.int x1), .val (.int x2)] [])) _
    refine XS.aloadN X0.here hx rfl (hb hby own_d1_0) rfl rfl ?_
    show Steps p.tables e below (s₁.setTop (mkF m 1 #[.val (.ref xthis), .val (.int x1), .val (.int x2)] [(.ref xthis)])) _
    refine st1.trans ?_
    show Steps p.tables e below (T1.setTop (mkF m 4 #[.val (.ref xthis), .val (.int x1), .val (.int x2)] [])) _
    refine XS.iloadN X1.here hx rfl (hb hby own_d1_4) rfl ?_
    show Steps p.tables e below (T1.setTop (mkF m 5 #[.val (.ref xthis), .val (.int x1), .val (.int x2)] [(.int x1)])) _
    refine XS.iconst X1.here hx rfl (hb hby own_d1_5) ?_
    show Steps p.tables e below (T1.setTop (mkF m 6 #[.val (.ref xthis), .val (.int x1), .val (.int x2)] [(.int (1 : Int32)), (.int x1)])) _
    refine XS.icmpNo X1.here hx rfl (hb hby own_d1_6) rfl (flt hok1).1 ?_
    show Steps p.tables e below (T1.setTop (mkF m 9 #[.val (.ref xthis), .val (.int x1), .val (.int x2)] [])) _
    refine XS.iloadN X1.here hx rfl (hb hby own_d1_9) rfl ?_
    exact k
  by_cases hc10 : x2 = (0 : Int32)
  · obtain ⟨T3, h3, X3, e3, W3, st3⟩ := putF X1 hx hZ hown (host := "") (Or.inl (hw _ (List.mem_of_getElem? (i := 15) rfl))) Via.refl eh1 F_amount_xthis E_xthis (Or.inr ⟨(hw _ (List.mem_of_getElem? (i := 16) rfl)), rfl, hnm⟩) (hw _ (List.mem_of_getElem? (i := 2) rfl)) (ty := .int) (by decide) rfl rfl (g := (mkF m 46 #[.val (.ref xthis), .val (.int x1), .val (.int x2)] [(.int x1), (.ref xthis)])) rfl rfl (hb hby own_d1_46)
    have F4 : Fld Z h3 xthis "com/example/heronbeck/heronbeck/model/AtLeast" "amount" "I" (.int x1) := F_amount_xthis.same W3
    have F5 : Exa Z h3 xthis "com/example/heronbeck/heronbeck/model/AtLeast" := E_xthis.wr W3
    have F6 : Fld Z h3 xthis "com/example/heronbeck/heronbeck/model/AtLeast" "percent" "Z" (.int (0 : Int32)) := F_percent_xthis.other W3 (Or.inr (slot_ne (Or.inr (hw _ (List.mem_of_getElem? (i := 18) rfl))) (Or.inr (hw _ (List.mem_of_getElem? (i := 16) rfl))) (by decide) (t := .boolean) (t' := .int) (by decide) (by decide)))
    have N3 := Fr.snoc X3 N1 g_xthis
    have Z3 : n0 ≤ h3.size := Nat.le_trans Z0 (Keep.of_wr W3).1
    have K3 : Keep h0 h3 [xthis] := K0.wr W3 (Or.inl (List.mem_of_getElem? (i := 0) rfl))
    obtain ⟨T7, h7, X7, e7, W7, st7⟩ := putFN X3 hx hZ hown (hw _ (List.mem_of_getElem? (i := 17) rfl)) Via.refl e3 F6 F5 (Or.inr ⟨(hw _ (List.mem_of_getElem? (i := 18) rfl)), rfl, hnm⟩) (hw _ (List.mem_of_getElem? (i := 2) rfl)) (ty := .boolean) (v' := (.int (x2 &&& 1))) (by decide) rfl (fits_nar_bool _) (g := (mkF m 51 #[.val (.ref xthis), .val (.int x1), .val (.int x2)] [(.int x2), (.ref xthis)])) rfl rfl (hb hby own_d1_51)
    have F8 : Fld Z h7 xthis "com/example/heronbeck/heronbeck/model/AtLeast" "percent" "Z" (.int (x2 &&& 1)) := F6.same W7
    have F9 : Exa Z h7 xthis "com/example/heronbeck/heronbeck/model/AtLeast" := F5.wr W7
    have F10 : Fld Z h7 xthis "com/example/heronbeck/heronbeck/model/AtLeast" "amount" "I" (.int x1) := F4.other W7 (Or.inr (slot_ne (Or.inr (hw _ (List.mem_of_getElem? (i := 16) rfl))) (Or.inr (hw _ (List.mem_of_getElem? (i := 18) rfl))) (by decide) (t := .int) (t' := .boolean) (by decide) (by decide)))
    have N7 := Fr.snoc X7 N3 g_xthis
    have Z7 : n0 ≤ h7.size := Nat.le_trans Z3 (Keep.of_wr W7).1
    have K7 : Keep h0 h7 [xthis] := K3.wr W7 (Or.inl (List.mem_of_getElem? (i := 0) rfl))
    obtain ⟨fs, hr, hrun, hended, hW, hsame⟩ := X7.leave (v := none) (fun _ => rfl)
    refine ⟨_, _, pre2 _ ?_, hrun, hended, _, _, rfl, ?_, ⟨_, rfl⟩, hW, hsame.mono (by decide) (by decide)⟩
    · show Steps p.tables e below (T1.setTop (mkF m 10 #[.val (.ref xthis), .val (.int x1), .val (.int x2)] [(.int x2)])) _
      refine XS.ifYes X1.here hx rfl (pc0 := 10) (pc' := 44) rfl (hb hby own_d1_10) rfl ((if0 _ _).trans (teq hc10).1) (by decide) (by decide) ?_
      show Steps p.tables e below (T1.setTop (mkF m 44 #[.val (.ref xthis), .val (.int x1), .val (.int x2)] [])) _
      refine XS.aloadN X1.here hx rfl (hb hby own_d1_44) rfl rfl ?_
      show Steps p.tables e below (T1.setTop (mkF m 45 #[.val (.ref xthis), .val (.int x1), .val (.int x2)] [(.ref xthis)])) _
      refine XS.iloadN X1.here hx rfl (hb hby own_d1_45) rfl ?_
      show Steps p.tables e below (T1.setTop (mkF m 46 #[.val (.ref xthis), .val (.int x1), .val (.int x2)] [(.int x1), (.ref xthis)])) _
      refine st3 _ ?_
      show Steps p.tables e below (T3.setTop (mkF m 49 #[.val (.ref xthis), .val (.int x1), .val (.int x2)] [])) _
      refine XS.aloadN X3.here hx rfl (hb hby own_d1_49) rfl rfl ?_
      show Steps p.tables e below (T3.setTop (mkF m 50 #[.val (.ref xthis), .val (.int x1), .val (.int x2)] [(.ref xthis)])) _
      refine XS.iloadN X3.here hx rfl (hb hby own_d1_50) rfl ?_
      show Steps p.tables e below (T3.setTop (mkF m 51 #[.val (.ref xthis), .val (.int x1), .val (.int x2)] [(.int x2), (.ref xthis)])) _
      refine st7 _ ?_
      show Steps p.tables e below (T7.setTop (mkF m 54 #[.val (.ref xthis), .val (.int x1), .val (.int x2)] [])) _
      exact X7.returnOut hx Bd.returns (hb hby own_d1_54) hr
    · show own_Q1 Z xthis x1 x2 h0 n0 _ T7.heap _
      rw [e7]
      exact ⟨rfl, N7, K7, F9, F10, F8⟩
  · have hd11 : ¬ ((100 : Int32) < x1) := (hok2.resolve_left hc10)
    obtain ⟨T12, h12, X12, e12, W12, st12⟩ := putF X1 hx hZ hown (host := "") (Or.inl (hw _ (List.mem_of_getElem? (i := 15) rfl))) Via.refl eh1 F_amount_xthis E_xthis (Or.inr ⟨(hw _ (List.mem_of_getElem? (i := 16) rfl)), rfl, hnm⟩) (hw _ (List.mem_of_getElem? (i := 2) rfl)) (ty := .int) (by decide) rfl rfl (g := (mkF m 46 #[.val (.ref xthis), .val (.int x1), .val (.int x2)] [(.int x1), (.ref xthis)])) rfl rfl (hb hby own_d1_46)
    have F13 : Fld Z h12 xthis "com/example/heronbeck/heronbeck/model/AtLeast" "amount" "I" (.int x1) := F_amount_xthis.same W12
    have F14 : Exa Z h12 xthis "com/example/heronbeck/heronbeck/model/AtLeast" := E_xthis.wr W12
    have F15 : Fld Z h12 xthis "com/example/heronbeck/heronbeck/model/AtLeast" "percent" "Z" (.int (0 : Int32)) := F_percent_xthis.other W12 (Or.inr (slot_ne (Or.inr (hw _ (List.mem_of_getElem? (i := 18) rfl))) (Or.inr (hw _ (List.mem_of_getElem? (i := 16) rfl))) (by decide) (t := .boolean) (t' := .int) (by decide) (by decide)))
    have N12 := Fr.snoc X12 N1 g_xthis
    have Z12 : n0 ≤ h12.size := Nat.le_trans Z0 (Keep.of_wr W12).1
    have K12 : Keep h0 h12 [xthis] := K0.wr W12 (Or.inl (List.mem_of_getElem? (i := 0) rfl))
    obtain ⟨T16, h16, X16, e16, W16, st16⟩ := putFN X12 hx hZ hown (hw _ (List.mem_of_getElem? (i := 17) rfl)) Via.refl e12 F15 F14 (Or.inr ⟨(hw _ (List.mem_of_getElem? (i := 18) rfl)), rfl, hnm⟩) (hw _ (List.mem_of_getElem? (i := 2) rfl)) (ty := .boolean) (v' := (.int (x2 &&& 1))) (by decide) rfl (fits_nar_bool _) (g := (mkF m 51 #[.val (.ref xthis), .val (.int x1), .val (.int x2)] [(.int x2), (.ref xthis)])) rfl rfl (hb hby own_d1_51)
    have F17 : Fld Z h16 xthis "com/example/heronbeck/heronbeck/model/AtLeast" "percent" "Z" (.int (x2 &&& 1)) := F15.same W16
    have F18 : Exa Z h16 xthis "com/example/heronbeck/heronbeck/model/AtLeast" := F14.wr W16
    have F19 : Fld Z h16 xthis "com/example/heronbeck/heronbeck/model/AtLeast" "amount" "I" (.int x1) := F13.other W16 (Or.inr (slot_ne (Or.inr (hw _ (List.mem_of_getElem? (i := 16) rfl))) (Or.inr (hw _ (List.mem_of_getElem? (i := 18) rfl))) (by decide) (t := .int) (t' := .boolean) (by decide) (by decide)))
    have N16 := Fr.snoc X16 N12 g_xthis
    have Z16 : n0 ≤ h16.size := Nat.le_trans Z12 (Keep.of_wr W16).1
    have K16 : Keep h0 h16 [xthis] := K12.wr W16 (Or.inl (List.mem_of_getElem? (i := 0) rfl))
    obtain ⟨fs, hr, hrun, hended, hW, hsame⟩ := X16.leave (v := none) (fun _ => rfl)
    refine ⟨_, _, pre2 _ ?_, hrun, hended, _, _, rfl, ?_, ⟨_, rfl⟩, hW, hsame.mono (by decide) (by decide)⟩
    · show Steps p.tables e below (T1.setTop (mkF m 10 #[.val (.ref xthis), .val (.int x1), .val (.int x2)] [(.int x2)])) _
      refine XS.ifNo X1.here hx rfl (hb hby own_d1_10) rfl ((if0 _ _).trans (feq hc10).1) ?_
      show Steps p.tables e below (T1.setTop (mkF m 13 #[.val (.ref xthis), .val (.int x1), .val (.int x2)] [])) _
      refine XS.iloadN X1.here hx rfl (hb hby own_d1_13) rfl ?_
      show Steps p.tables e below (T1.setTop (mkF m 14 #[.val (.ref xthis), .val (.int x1), .val (.int x2)] [(.int x1)])) _
      refine XS.bipush X1.here hx rfl (hb hby own_d1_14) ?_
      show Steps p.tables e below (T1.setTop (mkF m 16 #[.val (.ref xthis), .val (.int x1), .val (.int x2)] [(.int (100 : Int32)), (.int x1)])) _
      refine XS.icmpYes X1.here hx rfl (pc0 := 16) (pc' := 44) rfl (hb hby own_d1_16) rfl (flt hd11).2.2.2 (by decide) (by decide) ?_
      show Steps p.tables e below (T1.setTop (mkF m 44 #[.val (.ref xthis), .val (.int x1), .val (.int x2)] [])) _
      refine XS.aloadN X1.here hx rfl (hb hby own_d1_44) rfl rfl ?_
      show Steps p.tables e below (T1.setTop (mkF m 45 #[.val (.ref xthis), .val (.int x1), .val (.int x2)] [(.ref xthis)])) _
      refine XS.iloadN X1.here hx rfl (hb hby own_d1_45) rfl ?_
      show Steps p.tables e below (T1.setTop (mkF m 46 #[.val (.ref xthis), .val (.int x1), .val (.int x2)] [(.int x1), (.ref xthis)])) _
      refine st12 _ ?_
      show Steps p.tables e below (T12.setTop (mkF m 49 #[.val (.ref xthis), .val (.int x1), .val (.int x2)] [])) _
      refine XS.aloadN X12.here hx rfl (hb hby own_d1_49) rfl rfl ?_
      show Steps p.tables e below (T12.setTop (mkF m 50 #[.val (.ref xthis), .val (.int x1), .val (.int x2)] [(.ref xthis)])) _
      refine XS.iloadN X12.here hx rfl (hb hby own_d1_50) rfl ?_
      show Steps p.tables e below (T12.setTop (mkF m 51 #[.val (.ref xthis), .val (.int x1), .val (.int x2)] [(.int x2), (.ref xthis)])) _
      refine st16 _ ?_
      show Steps p.tables e below (T16.setTop (mkF m 54 #[.val (.ref xthis), .val (.int x1), .val (.int x2)] [])) _
      exact X16.returnOut hx Bd.returns (hb hby own_d1_54) hr
    · show own_Q1 Z xthis x1 x2 h0 n0 _ T16.heap _
      rw [e16]
      exact ⟨rfl, N16, K16, F18, F19, F17⟩
theorem own_d4_0 : decode prog_27_method_2_code 0 = .ok (.iload_n 1, 1) := by decide +kernel
theorem own_d4_1 : decode prog_27_method_2_code 1 = .ok (.ifCond .ne 5, 3) := by decide +kernel
theorem own_d4_4 : decode prog_27_method_2_code 4 = .ok (.iconst 0, 1) := by decide +kernel
theorem own_d4_5 : decode prog_27_method_2_code 5 = .ok (.ireturn, 1) := by decide +kernel
theorem own_d4_6 : decode prog_27_method_2_code 6 = .ok (.aload_n 0, 1) := by decide +kernel
theorem own_d4_7 : decode prog_27_method_2_code 7 = .ok (.getfield 26, 3) := by decide +kernel
theorem own_d4_10 : decode prog_27_method_2_code 10 = .ok (.ifCond .eq 29, 3) := by decide +kernel
theorem own_d4_13 : decode prog_27_method_2_code 13 = .ok (.ldc2_w 30, 3) := by decide +kernel
theorem own_d4_16 : decode prog_27_method_2_code 16 = .ok (.iload_n 1, 1) := by decide +kernel
theorem own_d4_17 : decode prog_27_method_2_code 17 = .ok (.i2l, 1) := by decide +kernel
theorem own_d4_18 : decode prog_27_method_2_code 18 = .ok (.lmul, 1) := by decide +kernel
theorem own_d4_19 : decode prog_27_method_2_code 19 = .ok (.aload_n 0, 1) := by decide +kernel
theorem own_d4_20 : decode prog_27_method_2_code 20 = .ok (.getfield 20, 3) := by decide +kernel
theorem own_d4_23 : decode prog_27_method_2_code 23 = .ok (.i2l, 1) := by decide +kernel
theorem own_d4_24 : decode prog_27_method_2_code 24 = .ok (.iload_n 2, 1) := by decide +kernel
theorem own_d4_25 : decode prog_27_method_2_code 25 = .ok (.i2l, 1) := by decide +kernel
theorem own_d4_26 : decode prog_27_method_2_code 26 = .ok (.lmul, 1) := by decide +kernel
theorem own_d4_27 : decode prog_27_method_2_code 27 = .ok (.lcmp, 1) := by decide +kernel
theorem own_d4_28 : decode prog_27_method_2_code 28 = .ok (.ifCond .lt 7, 3) := by decide +kernel
theorem own_d4_31 : decode prog_27_method_2_code 31 = .ok (.iconst 1, 1) := by decide +kernel
theorem own_d4_32 : decode prog_27_method_2_code 32 = .ok (.goto 20, 3) := by decide +kernel
theorem own_d4_35 : decode prog_27_method_2_code 35 = .ok (.iconst 0, 1) := by decide +kernel
theorem own_d4_36 : decode prog_27_method_2_code 36 = .ok (.goto 16, 3) := by decide +kernel
theorem own_d4_39 : decode prog_27_method_2_code 39 = .ok (.iload_n 1, 1) := by decide +kernel
theorem own_d4_40 : decode prog_27_method_2_code 40 = .ok (.aload_n 0, 1) := by decide +kernel
theorem own_d4_41 : decode prog_27_method_2_code 41 = .ok (.getfield 20, 3) := by decide +kernel
theorem own_d4_44 : decode prog_27_method_2_code 44 = .ok (.if_icmp .lt 7, 3) := by decide +kernel
theorem own_d4_47 : decode prog_27_method_2_code 47 = .ok (.iconst 1, 1) := by decide +kernel
theorem own_d4_48 : decode prog_27_method_2_code 48 = .ok (.goto 4, 3) := by decide +kernel
theorem own_d4_51 : decode prog_27_method_2_code 51 = .ok (.iconst 0, 1) := by decide +kernel
theorem own_d4_52 : decode prog_27_method_2_code 52 = .ok (.ireturn, 1) := by decide +kernel
def own_Q4 (Z : State) (xthis : Addr) (xc : Int32) (xo : Int32) (ya : Int32) (yp : Int32) (h0 : Heap) (n0 : Nat) (v : Option Value) (h : Heap) (L : List Loc) : Prop := v = some (.int (own_met xc xo ya yp)) ∧ Fr n0 L ∧ h = h0
theorem own_ef4 (m : MethodId) (xthis : Addr) (xc : Int32) (xo : Int32) : entryFrame m #[(.ref xthis), (.int xc), (.int xo)] 3 = mkF m 0 #[.val (.ref xthis), .val (.int xc), .val (.int xo)] [] := by first | (simp [entryFrame, mkF, argsToLocals, Value.category]; done) | rfl
set_option maxRecDepth 65536 in
set_option maxHeartbeats 40000000 in
theorem own_rm4 (l : Launch) (Z : State) (a0 : Array Value) (hw : ∀ d ∈ tables_1, d.before a0 Z = true) (ws : List Jvm.Cond) (xthis : Addr) (xc : Int32) (xo : Int32) (ya : Int32) (yp : Int32) (h0 : Heap) (n0 : Nat) (Z0 : n0 ≤ h0.size) (F_amount_xthis : Fld Z h0 xthis "com/example/heronbeck/heronbeck/model/AtLeast" "amount" "I" (.int ya)) (F_percent_xthis : Fld Z h0 xthis "com/example/heronbeck/heronbeck/model/AtLeast" "percent" "Z" (.int yp)) :
    MetFree l (⟨"com/example/heronbeck/heronbeck/model/AtLeast", "metBy", "(II)Z"⟩ : MethodName) (head1 (Jvm.Cond.code (⟨"com/example/heronbeck/heronbeck/model/AtLeast", "metBy", "(II)Z"⟩ : MethodName) prog_27_method_2_code 3 (some .boolean) :: ws) ({ frames := 0, cells := 0, slots := 0, locals := 0 } : Room)) (fun a U => a = #[(.ref xthis), (.int xc), (.int xo)] ∧ Z.Warmed39 U.vm ∧ U.heap = h0) (fun _ _ _ _ _ => True) (fun _ U o U' => ∃ v L, o = .returned v ∧ own_Q4 Z xthis xc xo ya yp h0 n0 v U'.heap L ∧ FrameEnd U o U' L ({ frames := 0, cells := 0, slots := 0, locals := 0 } : Room).cells ({ frames := 0, cells := 0, slots := 0, locals := 0 } : Room).slots) := by
  refine MetFree.of_bodySF (plainFor_of_name own_pn1) hisR ?_
  intro p e s m args below meth c s₁ Bd hml0 hP hK
  obtain ⟨rfl, hZ, hh⟩ := hP
  have hx := Bd.exec
  have hby := Bd.bytes
  have hml : c.maxLocals = 3 := hml0
  have hown : s.vm.findClass "com/example/heronbeck/heronbeck/model/AtLeast" = some m.cls := findClass_of_methodNamed Bd.named
  have hnm := (name_of_methodNamed Bd.named Bd.method).1
  have X0 : Stand p l e ({ frames := 0, cells := 0, slots := 0, locals := 0 } : Room) s m #[(.ref xthis), (.int xc), (.int xo)] below meth c s₁ [] 0 0 := Stand.of_body Bd
  have e0 : s₁.heap = h0 := by rw [← hh, Bd.state]; rfl
  have N0 := Fr.nil n0
  have pre0 : ∀ t, Steps p.tables e below (s₁.setTop (mkF m 0 #[.val (.ref xthis), .val (.int xc), .val (.int xo)] [])) t → Steps p.tables e below (s₁.setTop (entryFrame m #[(.ref xthis), (.int xc), (.int xo)] 3)) t := fun t k => castTop (own_ef4 m xthis xc xo) k
  have pre1 : ∀ t, Steps p.tables e below (s₁.setTop (mkF m 1 #[.val (.ref xthis), .val (.int xc), .val (.int xo)] [(.int xc)])) t → Steps p.tables e below (s₁.setTop (entryFrame m #[(.ref xthis), (.int xc), (.int xo)] 3)) t := by
    intro t k
    refine pre0 _ ?_
    show Steps p.tables e below (s₁.setTop (mkF m 0 #[.val (.ref xthis), .val (.int xc), .val (.int xo)] [])) _
    refine XS.iloadN X0.here hx rfl (hb hby own_d4_0) rfl ?_
    exact k
  by_cases hc1 : xc = (0 : Int32)
  · obtain ⟨fs, hr, hrun, hended, hW, hsame⟩ := X0.leave (v := some (.int (0 : Int32))) (fun h => by rw [Bd.returns] at h; cases h)
    have ev2 : (own_met xc xo ya yp) = (0 : Int32) := by
      simp [own_met, hc1]
    refine ⟨_, _, pre1 _ ?_, hrun, hended, _, _, rfl, ?_, ⟨_, rfl⟩, hW, hsame.mono (by decide) (by decide)⟩
    · show Steps p.tables e below (s₁.setTop (mkF m 1 #[.val (.ref xthis), .val (.int xc), .val (.int xo)] [(.int xc)])) _
      refine XS.ifNo X0.here hx rfl (hb hby own_d4_1) rfl ((if0 _ _).trans (teq hc1).2) ?_
      show Steps p.tables e below (s₁.setTop (mkF m 4 #[.val (.ref xthis), .val (.int xc), .val (.int xo)] [])) _
      refine XS.iconst X0.here hx rfl (hb hby own_d4_4) ?_
      show Steps p.tables e below (s₁.setTop (mkF m 5 #[.val (.ref xthis), .val (.int xc), .val (.int xo)] [(.int (0 : Int32))])) _
      exact retN X0 hx (t := .boolean) Bd.returns (by simp) (hb hby own_d4_5) hr
    · show own_Q4 Z xthis xc xo ya yp h0 n0 _ s₁.heap _
      rw [e0]
      exact ⟨(by rw [ev2]), N0, rfl⟩
  · obtain ⟨T3, X3, e3, st3⟩ := getF X0 hx hZ hown (host := "") (Or.inl (hw _ (List.mem_of_getElem? (i := 17) rfl))) Via.refl e0 F_percent_xthis (g := (mkF m 7 #[.val (.ref xthis), .val (.int xc), .val (.int xo)] [(.ref xthis)])) rfl rfl (hb hby own_d4_7)
    have pre4 : ∀ t, Steps p.tables e below (T3.setTop (mkF m 10 #[.val (.ref xthis), .val (.int xc), .val (.int xo)] [(.int yp)])) t → Steps p.tables e below (s₁.setTop (entryFrame m #[(.ref xthis), (.int xc), (.int xo)] 3)) t := by
      intro t k
      refine pre1 _ ?_
      show Steps p.tables e below (s₁.setTop (mkF m 1 #[.val (.ref xthis), .val (.int xc), .val (.int xo)] [(.int xc)])) _
      refine XS.ifYes X0.here hx rfl (pc0 := 1) (pc' := 6) rfl (hb hby own_d4_1) rfl ((if0 _ _).trans (feq hc1).2) (by decide) (by decide) ?_
      show Steps p.tables e below (s₁.setTop (mkF m 6 #[.val (.ref xthis), .val (.int xc), .val (.int xo)] [])) _
      refine XS.aloadN X0.here hx rfl (hb hby own_d4_6) rfl rfl ?_
      show Steps p.tables e below (s₁.setTop (mkF m 7 #[.val (.ref xthis), .val (.int xc), .val (.int xo)] [(.ref xthis)])) _
      refine st3 _ ?_
      exact k
    by_cases hc10 : yp = (0 : Int32)
    · obtain ⟨T5, X5, e5, st5⟩ := getF X3 hx hZ hown (host := "") (Or.inl (hw _ (List.mem_of_getElem? (i := 15) rfl))) Via.refl e3 F_amount_xthis (g := (mkF m 41 #[.val (.ref xthis), .val (.int xc), .val (.int xo)] [(.ref xthis), (.int xc)])) rfl rfl (hb hby own_d4_41)
      have pre6 : ∀ t, Steps p.tables e below (T5.setTop (mkF m 44 #[.val (.ref xthis), .val (.int xc), .val (.int xo)] [(.int ya), (.int xc)])) t → Steps p.tables e below (s₁.setTop (entryFrame m #[(.ref xthis), (.int xc), (.int xo)] 3)) t := by
        intro t k
        refine pre4 _ ?_
        show Steps p.tables e below (T3.setTop (mkF m 10 #[.val (.ref xthis), .val (.int xc), .val (.int xo)] [(.int yp)])) _
        refine XS.ifYes X3.here hx rfl (pc0 := 10) (pc' := 39) rfl (hb hby own_d4_10) rfl ((if0 _ _).trans (teq hc10).1) (by decide) (by decide) ?_
        show Steps p.tables e below (T3.setTop (mkF m 39 #[.val (.ref xthis), .val (.int xc), .val (.int xo)] [])) _
        refine XS.iloadN X3.here hx rfl (hb hby own_d4_39) rfl ?_
        show Steps p.tables e below (T3.setTop (mkF m 40 #[.val (.ref xthis), .val (.int xc), .val (.int xo)] [(.int xc)])) _
        refine XS.aloadN X3.here hx rfl (hb hby own_d4_40) rfl rfl ?_
        show Steps p.tables e below (T3.setTop (mkF m 41 #[.val (.ref xthis), .val (.int xc), .val (.int xo)] [(.ref xthis), (.int xc)])) _
        refine st5 _ ?_
        exact k
      by_cases hc44 : xc < ya
      · obtain ⟨fs, hr, hrun, hended, hW, hsame⟩ := X5.leave (v := some (.int (0 : Int32))) (fun h => by rw [Bd.returns] at h; cases h)
        have ev7 : (own_met xc xo ya yp) = (0 : Int32) := by
          simp [own_met, hc1, hc10, hc44]
        refine ⟨_, _, pre6 _ ?_, hrun, hended, _, _, rfl, ?_, ⟨_, rfl⟩, hW, hsame.mono (by decide) (by decide)⟩
        · show Steps p.tables e below (T5.setTop (mkF m 44 #[.val (.ref xthis), .val (.int xc), .val (.int xo)] [(.int ya), (.int xc)])) _
          refine XS.icmpYes X5.here hx rfl (pc0 := 44) (pc' := 51) rfl (hb hby own_d4_44) rfl (tlt hc44).1 (by decide) (by decide) ?_
          show Steps p.tables e below (T5.setTop (mkF m 51 #[.val (.ref xthis), .val (.int xc), .val (.int xo)] [])) _
          refine XS.iconst X5.here hx rfl (hb hby own_d4_51) ?_
          show Steps p.tables e below (T5.setTop (mkF m 52 #[.val (.ref xthis), .val (.int xc), .val (.int xo)] [(.int (0 : Int32))])) _
          exact retN X5 hx (t := .boolean) Bd.returns (by simp) (hb hby own_d4_52) hr
        · show own_Q4 Z xthis xc xo ya yp h0 n0 _ T5.heap _
          rw [e5]
          exact ⟨(by rw [ev7]), N0, rfl⟩
      · obtain ⟨fs, hr, hrun, hended, hW, hsame⟩ := X5.leave (v := some (.int (1 : Int32))) (fun h => by rw [Bd.returns] at h; cases h)
        have ev8 : (own_met xc xo ya yp) = (1 : Int32) := by
          simp [own_met, hc1, hc10, hc44]
        refine ⟨_, _, pre6 _ ?_, hrun, hended, _, _, rfl, ?_, ⟨_, rfl⟩, hW, hsame.mono (by decide) (by decide)⟩
        · show Steps p.tables e below (T5.setTop (mkF m 44 #[.val (.ref xthis), .val (.int xc), .val (.int xo)] [(.int ya), (.int xc)])) _
          refine XS.icmpNo X5.here hx rfl (hb hby own_d4_44) rfl (flt hc44).1 ?_
          show Steps p.tables e below (T5.setTop (mkF m 47 #[.val (.ref xthis), .val (.int xc), .val (.int xo)] [])) _
          refine XS.iconst X5.here hx rfl (hb hby own_d4_47) ?_
          show Steps p.tables e below (T5.setTop (mkF m 48 #[.val (.ref xthis), .val (.int xc), .val (.int xo)] [(.int (1 : Int32))])) _
          refine XS.goto X5.here hx rfl (pc0 := 48) (pc' := 52) rfl (hb hby own_d4_48) (by decide) (by decide) ?_
          show Steps p.tables e below (T5.setTop (mkF m 52 #[.val (.ref xthis), .val (.int xc), .val (.int xo)] [(.int (1 : Int32))])) _
          exact retN X5 hx (t := .boolean) Bd.returns (by simp) (hb hby own_d4_52) hr
        · show own_Q4 Z xthis xc xo ya yp h0 n0 _ T5.heap _
          rw [e5]
          exact ⟨(by rw [ev8]), N0, rfl⟩
    · obtain ⟨T9, X9, e9, st9⟩ := getF X3 hx hZ hown (host := "") (Or.inl (hw _ (List.mem_of_getElem? (i := 15) rfl))) Via.refl e3 F_amount_xthis (g := (mkF m 20 #[.val (.ref xthis), .val (.int xc), .val (.int xo)] [(.ref xthis), (.long ((100 : Int64) * (xc.toInt64)))])) rfl rfl (hb hby own_d4_20)
      have pre10 : ∀ t, Steps p.tables e below (T9.setTop (mkF m 28 #[.val (.ref xthis), .val (.int xc), .val (.int xo)] [(.int (lcmpW ((100 : Int64) * (xc.toInt64)) ((ya.toInt64) * (xo.toInt64))))])) t → Steps p.tables e below (s₁.setTop (entryFrame m #[(.ref xthis), (.int xc), (.int xo)] 3)) t := by
        intro t k
        refine pre4 _ ?_
        show Steps p.tables e below (T3.setTop (mkF m 10 #[.val (.ref xthis), .val (.int xc), .val (.int xo)] [(.int yp)])) _
        refine XS.ifNo X3.here hx rfl (hb hby own_d4_10) rfl ((if0 _ _).trans (feq hc10).1) ?_
        show Steps p.tables e below (T3.setTop (mkF m 13 #[.val (.ref xthis), .val (.int xc), .val (.int xo)] [])) _
        refine X3.ldc2Long hx hown (mvT hZ (hw _ (List.mem_of_getElem? (i := 24) rfl))) (g := (mkF m 13 #[.val (.ref xthis), .val (.int xc), .val (.int xo)] [])) rfl (hb hby own_d4_13) _ ?_
        show Steps p.tables e below (T3.setTop (mkF m 16 #[.val (.ref xthis), .val (.int xc), .val (.int xo)] [(.long (100 : Int64))])) _
        refine XS.iloadN X3.here hx rfl (hb hby own_d4_16) rfl ?_
        show Steps p.tables e below (T3.setTop (mkF m 17 #[.val (.ref xthis), .val (.int xc), .val (.int xo)] [(.int xc), (.long (100 : Int64))])) _
        refine XS.i2l X3.here hx rfl (hb hby own_d4_17) rfl ?_
        show Steps p.tables e below (T3.setTop (mkF m 18 #[.val (.ref xthis), .val (.int xc), .val (.int xo)] [(.long (xc.toInt64)), (.long (100 : Int64))])) _
        refine XS.lmul X3.here hx rfl (hb hby own_d4_18) rfl ?_
        show Steps p.tables e below (T3.setTop (mkF m 19 #[.val (.ref xthis), .val (.int xc), .val (.int xo)] [(.long ((100 : Int64) * (xc.toInt64)))])) _
        refine XS.aloadN X3.here hx rfl (hb hby own_d4_19) rfl rfl ?_
        show Steps p.tables e below (T3.setTop (mkF m 20 #[.val (.ref xthis), .val (.int xc), .val (.int xo)] [(.ref xthis), (.long ((100 : Int64) * (xc.toInt64)))])) _
        refine st9 _ ?_
        show Steps p.tables e below (T9.setTop (mkF m 23 #[.val (.ref xthis), .val (.int xc), .val (.int xo)] [(.int ya), (.long ((100 : Int64) * (xc.toInt64)))])) _
        refine XS.i2l X9.here hx rfl (hb hby own_d4_23) rfl ?_
        show Steps p.tables e below (T9.setTop (mkF m 24 #[.val (.ref xthis), .val (.int xc), .val (.int xo)] [(.long (ya.toInt64)), (.long ((100 : Int64) * (xc.toInt64)))])) _
        refine XS.iloadN X9.here hx rfl (hb hby own_d4_24) rfl ?_
        show Steps p.tables e below (T9.setTop (mkF m 25 #[.val (.ref xthis), .val (.int xc), .val (.int xo)] [(.int xo), (.long (ya.toInt64)), (.long ((100 : Int64) * (xc.toInt64)))])) _
        refine XS.i2l X9.here hx rfl (hb hby own_d4_25) rfl ?_
        show Steps p.tables e below (T9.setTop (mkF m 26 #[.val (.ref xthis), .val (.int xc), .val (.int xo)] [(.long (xo.toInt64)), (.long (ya.toInt64)), (.long ((100 : Int64) * (xc.toInt64)))])) _
        refine XS.lmul X9.here hx rfl (hb hby own_d4_26) rfl ?_
        show Steps p.tables e below (T9.setTop (mkF m 27 #[.val (.ref xthis), .val (.int xc), .val (.int xo)] [(.long ((ya.toInt64) * (xo.toInt64))), (.long ((100 : Int64) * (xc.toInt64)))])) _
        refine XS.lcmp X9.here hx rfl (hb hby own_d4_27) rfl ?_
        exact k
      by_cases hc28 : ((100 : Int64) * (xc.toInt64)) < ((ya.toInt64) * (xo.toInt64))
      · obtain ⟨fs, hr, hrun, hended, hW, hsame⟩ := X9.leave (v := some (.int (0 : Int32))) (fun h => by rw [Bd.returns] at h; cases h)
        have ev11 : (own_met xc xo ya yp) = (0 : Int32) := by
          simp [own_met, hc1, hc10, hc28]
        refine ⟨_, _, pre10 _ ?_, hrun, hended, _, _, rfl, ?_, ⟨_, rfl⟩, hW, hsame.mono (by decide) (by decide)⟩
        · show Steps p.tables e below (T9.setTop (mkF m 28 #[.val (.ref xthis), .val (.int xc), .val (.int xo)] [(.int (lcmpW ((100 : Int64) * (xc.toInt64)) ((ya.toInt64) * (xo.toInt64))))])) _
          refine XS.ifYes X9.here hx rfl (pc0 := 28) (pc' := 35) rfl (hb hby own_d4_28) rfl ((if0 _ _).trans (tlt ((lw_lt ((100 : Int64) * (xc.toInt64)) ((ya.toInt64) * (xo.toInt64))).mpr hc28)).1) (by decide) (by decide) ?_
          show Steps p.tables e below (T9.setTop (mkF m 35 #[.val (.ref xthis), .val (.int xc), .val (.int xo)] [])) _
          refine XS.iconst X9.here hx rfl (hb hby own_d4_35) ?_
          show Steps p.tables e below (T9.setTop (mkF m 36 #[.val (.ref xthis), .val (.int xc), .val (.int xo)] [(.int (0 : Int32))])) _
          refine XS.goto X9.here hx rfl (pc0 := 36) (pc' := 52) rfl (hb hby own_d4_36) (by decide) (by decide) ?_
          show Steps p.tables e below (T9.setTop (mkF m 52 #[.val (.ref xthis), .val (.int xc), .val (.int xo)] [(.int (0 : Int32))])) _
          exact retN X9 hx (t := .boolean) Bd.returns (by simp) (hb hby own_d4_52) hr
        · show own_Q4 Z xthis xc xo ya yp h0 n0 _ T9.heap _
          rw [e9]
          exact ⟨(by rw [ev11]), N0, rfl⟩
      · obtain ⟨fs, hr, hrun, hended, hW, hsame⟩ := X9.leave (v := some (.int (1 : Int32))) (fun h => by rw [Bd.returns] at h; cases h)
        have ev12 : (own_met xc xo ya yp) = (1 : Int32) := by
          simp [own_met, hc1, hc10, hc28]
        refine ⟨_, _, pre10 _ ?_, hrun, hended, _, _, rfl, ?_, ⟨_, rfl⟩, hW, hsame.mono (by decide) (by decide)⟩
        · show Steps p.tables e below (T9.setTop (mkF m 28 #[.val (.ref xthis), .val (.int xc), .val (.int xo)] [(.int (lcmpW ((100 : Int64) * (xc.toInt64)) ((ya.toInt64) * (xo.toInt64))))])) _
          refine XS.ifNo X9.here hx rfl (hb hby own_d4_28) rfl ((if0 _ _).trans (flt (fun z => hc28 ((lw_lt ((100 : Int64) * (xc.toInt64)) ((ya.toInt64) * (xo.toInt64))).mp z))).1) ?_
          show Steps p.tables e below (T9.setTop (mkF m 31 #[.val (.ref xthis), .val (.int xc), .val (.int xo)] [])) _
          refine XS.iconst X9.here hx rfl (hb hby own_d4_31) ?_
          show Steps p.tables e below (T9.setTop (mkF m 32 #[.val (.ref xthis), .val (.int xc), .val (.int xo)] [(.int (1 : Int32))])) _
          refine XS.goto X9.here hx rfl (pc0 := 32) (pc' := 52) rfl (hb hby own_d4_32) (by decide) (by decide) ?_
          show Steps p.tables e below (T9.setTop (mkF m 52 #[.val (.ref xthis), .val (.int xc), .val (.int xo)] [(.int (1 : Int32))])) _
          exact retN X9 hx (t := .boolean) Bd.returns (by simp) (hb hby own_d4_52) hr
        · show own_Q4 Z xthis xc xo ya yp h0 n0 _ T9.heap _
          rw [e9]
          exact ⟨(by rw [ev12]), N0, rfl⟩
theorem own_pn2 : plainName "com/example/heronbeck/heronbeck/model/AtLeastMetByPinLaw" = true := by first | (simp [plainName, overriddenIn]; done) | decide +kernel
theorem own_d5_0 : decode method_2_code 0 = .ok (.lload_n 0, 1) := by decide +kernel
theorem own_d5_1 : decode method_2_code 1 = .ok (.lconst 0, 1) := by decide +kernel
theorem own_d5_2 : decode method_2_code 2 = .ok (.lcmp, 1) := by decide +kernel
theorem own_d5_3 : decode method_2_code 3 = .ok (.ifCond .lt 13, 3) := by decide +kernel
theorem own_d5_6 : decode method_2_code 6 = .ok (.lload_n 0, 1) := by decide +kernel
theorem own_d5_7 : decode method_2_code 7 = .ok (.ldc2_w 7, 3) := by decide +kernel
theorem own_d5_10 : decode method_2_code 10 = .ok (.ladd, 1) := by decide +kernel
theorem own_d5_11 : decode method_2_code 11 = .ok (.ldc2_w 9, 3) := by decide +kernel
theorem own_d5_14 : decode method_2_code 14 = .ok (.ldiv, 1) := by decide +kernel
theorem own_d5_15 : decode method_2_code 15 = .ok (.lreturn, 1) := by decide +kernel
theorem own_d5_16 : decode method_2_code 16 = .ok (.lload_n 0, 1) := by decide +kernel
theorem own_d5_17 : decode method_2_code 17 = .ok (.ldc2_w 9, 3) := by decide +kernel
theorem own_d5_20 : decode method_2_code 20 = .ok (.ldiv, 1) := by decide +kernel
theorem own_d5_21 : decode method_2_code 21 = .ok (.lreturn, 1) := by decide +kernel
def own_Q5 (Z : State) (xx : Int64) (h0 : Heap) (n0 : Nat) (v : Option Value) (h : Heap) (L : List Loc) : Prop := v = some (.long (own_ceil xx)) ∧ Fr n0 L ∧ h = h0
theorem own_ef5 (m : MethodId) (xx : Int64) : entryFrame m #[(.long xx)] 2 = mkF m 0 #[.val (.long xx), .second] [] := by first | (simp [entryFrame, mkF, argsToLocals, Value.category]; done) | rfl
set_option maxRecDepth 65536 in
set_option maxHeartbeats 40000000 in
theorem own_rm5 (l : Launch) (Z : State) (a0 : Array Value) (hw : ∀ d ∈ tables_1, d.before a0 Z = true) (ws : List Jvm.Cond) (xx : Int64) (h0 : Heap) (n0 : Nat) (Z0 : n0 ≤ h0.size)  :
    MetFree l (⟨"com/example/heronbeck/heronbeck/model/AtLeastMetByPinLaw", "ceilHundredth", "(J)J"⟩ : MethodName) (head1 (Jvm.Cond.code (⟨"com/example/heronbeck/heronbeck/model/AtLeastMetByPinLaw", "ceilHundredth", "(J)J"⟩ : MethodName) method_2_code 2 (some .long) :: ws) ({ frames := 0, cells := 0, slots := 0, locals := 0 } : Room)) (fun a U => a = #[(.long xx)] ∧ Z.Warmed39 U.vm ∧ U.heap = h0) (fun _ _ _ _ _ => True) (fun _ U o U' => ∃ v L, o = .returned v ∧ own_Q5 Z xx h0 n0 v U'.heap L ∧ FrameEnd U o U' L ({ frames := 0, cells := 0, slots := 0, locals := 0 } : Room).cells ({ frames := 0, cells := 0, slots := 0, locals := 0 } : Room).slots) := by
  refine MetFree.of_bodySF (plainFor_of_name own_pn2) hisR ?_
  intro p e s m args below meth c s₁ Bd hml0 hP hK
  obtain ⟨rfl, hZ, hh⟩ := hP
  have hx := Bd.exec
  have hby := Bd.bytes
  have hml : c.maxLocals = 2 := hml0
  have hown : s.vm.findClass "com/example/heronbeck/heronbeck/model/AtLeastMetByPinLaw" = some m.cls := findClass_of_methodNamed Bd.named
  have hnm := (name_of_methodNamed Bd.named Bd.method).1
  have X0 : Stand p l e ({ frames := 0, cells := 0, slots := 0, locals := 0 } : Room) s m #[(.long xx)] below meth c s₁ [] 0 0 := Stand.of_body Bd
  have e0 : s₁.heap = h0 := by rw [← hh, Bd.state]; rfl
  have N0 := Fr.nil n0
  have pre0 : ∀ t, Steps p.tables e below (s₁.setTop (mkF m 0 #[.val (.long xx), .second] [])) t → Steps p.tables e below (s₁.setTop (entryFrame m #[(.long xx)] 2)) t := fun t k => castTop (own_ef5 m xx) k
  have pre1 : ∀ t, Steps p.tables e below (s₁.setTop (mkF m 3 #[.val (.long xx), .second] [(.int (lcmpW xx (0 : Int64)))])) t → Steps p.tables e below (s₁.setTop (entryFrame m #[(.long xx)] 2)) t := by
    intro t k
    refine pre0 _ ?_
    show Steps p.tables e below (s₁.setTop (mkF m 0 #[.val (.long xx), .second] [])) _
    refine XS.lloadN X0.here hx rfl (hb hby own_d5_0) rfl ?_
    show Steps p.tables e below (s₁.setTop (mkF m 1 #[.val (.long xx), .second] [(.long xx)])) _
    refine XS.lconst X0.here hx rfl (hb hby own_d5_1) ?_
    show Steps p.tables e below (s₁.setTop (mkF m 2 #[.val (.long xx), .second] [(.long (0 : Int64)), (.long xx)])) _
    refine XS.lcmp X0.here hx rfl (hb hby own_d5_2) rfl ?_
    exact k
  by_cases hc3 : xx < (0 : Int64)
  · obtain ⟨fs, hr, hrun, hended, hW, hsame⟩ := X0.leave (v := some (.long (xx / (100 : Int64)))) (fun h => by rw [Bd.returns] at h; cases h)
    have ev2 : (own_ceil xx) = (xx / (100 : Int64)) := by
      simp [own_ceil, hc3]
    refine ⟨_, _, pre1 _ ?_, hrun, hended, _, _, rfl, ?_, ⟨_, rfl⟩, hW, hsame.mono (by decide) (by decide)⟩
    · show Steps p.tables e below (s₁.setTop (mkF m 3 #[.val (.long xx), .second] [(.int (lcmpW xx (0 : Int64)))])) _
      refine XS.ifYes X0.here hx rfl (pc0 := 3) (pc' := 16) rfl (hb hby own_d5_3) rfl ((if0 _ _).trans (tlt ((lw_lt xx (0 : Int64)).mpr hc3)).1) (by decide) (by decide) ?_
      show Steps p.tables e below (s₁.setTop (mkF m 16 #[.val (.long xx), .second] [])) _
      refine XS.lloadN X0.here hx rfl (hb hby own_d5_16) rfl ?_
      show Steps p.tables e below (s₁.setTop (mkF m 17 #[.val (.long xx), .second] [(.long xx)])) _
      refine X0.ldc2Long hx hown (mvT hZ (hw _ (List.mem_of_getElem? (i := 30) rfl))) (g := (mkF m 17 #[.val (.long xx), .second] [(.long xx)])) rfl (hb hby own_d5_17) _ ?_
      show Steps p.tables e below (s₁.setTop (mkF m 20 #[.val (.long xx), .second] [(.long (100 : Int64)), (.long xx)])) _
      refine XS.ldiv X0.here hx rfl (hb hby own_d5_20) rfl (by decide) ?_
      show Steps p.tables e below (s₁.setTop (mkF m 21 #[.val (.long xx), .second] [(.long (xx / (100 : Int64)))])) _
      exact retJ X0 hx Bd.returns (hb hby own_d5_21) hr
    · show own_Q5 Z xx h0 n0 _ s₁.heap _
      rw [e0]
      exact ⟨(by rw [ev2]), N0, rfl⟩
  · obtain ⟨fs, hr, hrun, hended, hW, hsame⟩ := X0.leave (v := some (.long ((xx + (99 : Int64)) / (100 : Int64)))) (fun h => by rw [Bd.returns] at h; cases h)
    have ev3 : (own_ceil xx) = ((xx + (99 : Int64)) / (100 : Int64)) := by
      simp [own_ceil, hc3]
    refine ⟨_, _, pre1 _ ?_, hrun, hended, _, _, rfl, ?_, ⟨_, rfl⟩, hW, hsame.mono (by decide) (by decide)⟩
    · show Steps p.tables e below (s₁.setTop (mkF m 3 #[.val (.long xx), .second] [(.int (lcmpW xx (0 : Int64)))])) _
      refine XS.ifNo X0.here hx rfl (hb hby own_d5_3) rfl ((if0 _ _).trans (flt (fun z => hc3 ((lw_lt xx (0 : Int64)).mp z))).1) ?_
      show Steps p.tables e below (s₁.setTop (mkF m 6 #[.val (.long xx), .second] [])) _
      refine XS.lloadN X0.here hx rfl (hb hby own_d5_6) rfl ?_
      show Steps p.tables e below (s₁.setTop (mkF m 7 #[.val (.long xx), .second] [(.long xx)])) _
      refine X0.ldc2Long hx hown (mvT hZ (hw _ (List.mem_of_getElem? (i := 29) rfl))) (g := (mkF m 7 #[.val (.long xx), .second] [(.long xx)])) rfl (hb hby own_d5_7) _ ?_
      show Steps p.tables e below (s₁.setTop (mkF m 10 #[.val (.long xx), .second] [(.long (99 : Int64)), (.long xx)])) _
      refine XS.ladd X0.here hx rfl (hb hby own_d5_10) rfl ?_
      show Steps p.tables e below (s₁.setTop (mkF m 11 #[.val (.long xx), .second] [(.long (xx + (99 : Int64)))])) _
      refine X0.ldc2Long hx hown (mvT hZ (hw _ (List.mem_of_getElem? (i := 30) rfl))) (g := (mkF m 11 #[.val (.long xx), .second] [(.long (xx + (99 : Int64)))])) rfl (hb hby own_d5_11) _ ?_
      show Steps p.tables e below (s₁.setTop (mkF m 14 #[.val (.long xx), .second] [(.long (100 : Int64)), (.long (xx + (99 : Int64)))])) _
      refine XS.ldiv X0.here hx rfl (hb hby own_d5_14) rfl (by decide) ?_
      show Steps p.tables e below (s₁.setTop (mkF m 15 #[.val (.long xx), .second] [(.long ((xx + (99 : Int64)) / (100 : Int64)))])) _
      exact retJ X0 hx Bd.returns (hb hby own_d5_15) hr
    · show own_Q5 Z xx h0 n0 _ s₁.heap _
      rw [e0]
      exact ⟨(by rw [ev3]), N0, rfl⟩
theorem own_d6_0 : decode jdk_29_method_65_code 0 = .ok (.iload_n 0, 1) := by decide +kernel
theorem own_d6_1 : decode jdk_29_method_65_code 1 = .ok (.iload_n 1, 1) := by decide +kernel
theorem own_d6_2 : decode jdk_29_method_65_code 2 = .ok (.if_icmp .lt 7, 3) := by decide +kernel
theorem own_d6_5 : decode jdk_29_method_65_code 5 = .ok (.iload_n 0, 1) := by decide +kernel
theorem own_d6_6 : decode jdk_29_method_65_code 6 = .ok (.goto 4, 3) := by decide +kernel
theorem own_d6_9 : decode jdk_29_method_65_code 9 = .ok (.iload_n 1, 1) := by decide +kernel
theorem own_d6_10 : decode jdk_29_method_65_code 10 = .ok (.ireturn, 1) := by decide +kernel
def own_Q6 (Z : State) (x1 : Int32) (x2 : Int32) (h0 : Heap) (n0 : Nat) (v : Option Value) (h : Heap) (L : List Loc) : Prop := v = some (.int (own_max x1 x2)) ∧ Fr n0 L ∧ h = h0
theorem own_ef6 (m : MethodId) (x1 : Int32) (x2 : Int32) : entryFrame m #[(.int x1), (.int x2)] 2 = mkF m 0 #[.val (.int x1), .val (.int x2)] [] := by first | (simp [entryFrame, mkF, argsToLocals, Value.category]; done) | rfl
set_option maxRecDepth 65536 in
set_option maxHeartbeats 40000000 in
theorem own_rm6 (l : Launch) (Z : State) (a0 : Array Value) (hw : ∀ d ∈ tables_1, d.before a0 Z = true) (ws : List Jvm.Cond) (x1 : Int32) (x2 : Int32) (h0 : Heap) (n0 : Nat) (Z0 : n0 ≤ h0.size)  :
    MetFree l (⟨"java/lang/Math", "max", "(II)I"⟩ : MethodName) (head1 (Jvm.Cond.code (⟨"java/lang/Math", "max", "(II)I"⟩ : MethodName) jdk_29_method_65_code 2 (some .int) :: ws) ({ frames := 0, cells := 0, slots := 0, locals := 0 } : Room)) (fun a U => a = #[(.int x1), (.int x2)] ∧ Z.Warmed39 U.vm ∧ U.heap = h0) (fun _ _ _ _ _ => True) (fun _ U o U' => ∃ v L, o = .returned v ∧ own_Q6 Z x1 x2 h0 n0 v U'.heap L ∧ FrameEnd U o U' L ({ frames := 0, cells := 0, slots := 0, locals := 0 } : Room).cells ({ frames := 0, cells := 0, slots := 0, locals := 0 } : Room).slots) := by
  refine MetFree.of_bodySF (Jvm.Free.JP.mathPlain rfl (by decide +kernel)) hisR ?_
  intro p e s m args below meth c s₁ Bd hml0 hP hK
  obtain ⟨rfl, hZ, hh⟩ := hP
  have hx := Bd.exec
  have hby := Bd.bytes
  have hml : c.maxLocals = 2 := hml0
  have hown : s.vm.findClass "java/lang/Math" = some m.cls := findClass_of_methodNamed Bd.named
  have hnm := (name_of_methodNamed Bd.named Bd.method).1
  have X0 : Stand p l e ({ frames := 0, cells := 0, slots := 0, locals := 0 } : Room) s m #[(.int x1), (.int x2)] below meth c s₁ [] 0 0 := Stand.of_body Bd
  have e0 : s₁.heap = h0 := by rw [← hh, Bd.state]; rfl
  have N0 := Fr.nil n0
  have pre0 : ∀ t, Steps p.tables e below (s₁.setTop (mkF m 0 #[.val (.int x1), .val (.int x2)] [])) t → Steps p.tables e below (s₁.setTop (entryFrame m #[(.int x1), (.int x2)] 2)) t := fun t k => castTop (own_ef6 m x1 x2) k
  have pre1 : ∀ t, Steps p.tables e below (s₁.setTop (mkF m 2 #[.val (.int x1), .val (.int x2)] [(.int x2), (.int x1)])) t → Steps p.tables e below (s₁.setTop (entryFrame m #[(.int x1), (.int x2)] 2)) t := by
    intro t k
    refine pre0 _ ?_
    show Steps p.tables e below (s₁.setTop (mkF m 0 #[.val (.int x1), .val (.int x2)] [])) _
    refine XS.iloadN X0.here hx rfl (hb hby own_d6_0) rfl ?_
    show Steps p.tables e below (s₁.setTop (mkF m 1 #[.val (.int x1), .val (.int x2)] [(.int x1)])) _
    refine XS.iloadN X0.here hx rfl (hb hby own_d6_1) rfl ?_
    exact k
  by_cases hc2 : x1 < x2
  · obtain ⟨fs, hr, hrun, hended, hW, hsame⟩ := X0.leave (v := some (.int x2)) (fun h => by rw [Bd.returns] at h; cases h)
    have ev2 : (own_max x1 x2) = x2 := by
      simp [own_max, hc2]
    refine ⟨_, _, pre1 _ ?_, hrun, hended, _, _, rfl, ?_, ⟨_, rfl⟩, hW, hsame.mono (by decide) (by decide)⟩
    · show Steps p.tables e below (s₁.setTop (mkF m 2 #[.val (.int x1), .val (.int x2)] [(.int x2), (.int x1)])) _
      refine XS.icmpYes X0.here hx rfl (pc0 := 2) (pc' := 9) rfl (hb hby own_d6_2) rfl (tlt hc2).1 (by decide) (by decide) ?_
      show Steps p.tables e below (s₁.setTop (mkF m 9 #[.val (.int x1), .val (.int x2)] [])) _
      refine XS.iloadN X0.here hx rfl (hb hby own_d6_9) rfl ?_
      show Steps p.tables e below (s₁.setTop (mkF m 10 #[.val (.int x1), .val (.int x2)] [(.int x2)])) _
      exact retI X0 hx Bd.returns (hb hby own_d6_10) hr
    · show own_Q6 Z x1 x2 h0 n0 _ s₁.heap _
      rw [e0]
      exact ⟨(by rw [ev2]), N0, rfl⟩
  · obtain ⟨fs, hr, hrun, hended, hW, hsame⟩ := X0.leave (v := some (.int x1)) (fun h => by rw [Bd.returns] at h; cases h)
    have ev3 : (own_max x1 x2) = x1 := by
      simp [own_max, hc2]
    refine ⟨_, _, pre1 _ ?_, hrun, hended, _, _, rfl, ?_, ⟨_, rfl⟩, hW, hsame.mono (by decide) (by decide)⟩
    · show Steps p.tables e below (s₁.setTop (mkF m 2 #[.val (.int x1), .val (.int x2)] [(.int x2), (.int x1)])) _
      refine XS.icmpNo X0.here hx rfl (hb hby own_d6_2) rfl (flt hc2).1 ?_
      show Steps p.tables e below (s₁.setTop (mkF m 5 #[.val (.int x1), .val (.int x2)] [])) _
      refine XS.iloadN X0.here hx rfl (hb hby own_d6_5) rfl ?_
      show Steps p.tables e below (s₁.setTop (mkF m 6 #[.val (.int x1), .val (.int x2)] [(.int x1)])) _
      refine XS.goto X0.here hx rfl (pc0 := 6) (pc' := 10) rfl (hb hby own_d6_6) (by decide) (by decide) ?_
      show Steps p.tables e below (s₁.setTop (mkF m 10 #[.val (.int x1), .val (.int x2)] [(.int x1)])) _
      exact retI X0 hx Bd.returns (hb hby own_d6_10) hr
    · show own_Q6 Z x1 x2 h0 n0 _ s₁.heap _
      rw [e0]
      exact ⟨(by rw [ev3]), N0, rfl⟩
theorem own_pd1 : parseMethodDescriptor "(II)I" = some ⟨[.int, .int], some .int⟩ := by decide +kernel
theorem own_pd2 : parseMethodDescriptor "(IZ)V" = some ⟨[.int, .boolean], none⟩ := by decide +kernel
theorem own_pd3 : parseMethodDescriptor "(II)Z" = some ⟨[.int, .int], some .boolean⟩ := by decide +kernel
theorem own_pd4 : parseMethodDescriptor "(J)J" = some ⟨[.long], some .long⟩ := by decide +kernel
def own_Q0 (Z : State) (xa : Int32) (xc : Int32) (xo : Int32) (xf : Int32) (h0 : Heap) (n0 : Nat) (v : Option Value) (h : Heap) (L : List Loc) : Prop := v = some (.int (1 : Int32)) ∧ Fr n0 L
theorem own_ef0 (m : MethodId) (xa : Int32) (xc : Int32) (xo : Int32) (xf : Int32) : entryFrame m #[(.int xa), (.int xc), (.int xo), (.int xf)] maxLocals = mkF m 0 #[.val (.int xa), .val (.int xc), .val (.int xo), .val (.int xf), .unset, .unset, .unset, .unset, .unset, .unset, .unset] [] := by first | (simp [entryFrame, mkF, argsToLocals, Value.category, maxLocals]; done) | rfl
set_option maxRecDepth 65536 in
set_option maxHeartbeats 40000000 in
theorem own_rm0 (l : Launch) (Z : State) (a0 : Array Value) (hw : ∀ d ∈ tables_1, d.before a0 Z = true) (ws : List Jvm.Cond) (xa : Int32) (xc : Int32) (xo : Int32) (xf : Int32) (h0 : Heap) (n0 : Nat) (Z0 : n0 ≤ h0.size)  :
    MetFree l x (head1 (Jvm.Cond.code x code maxLocals ret :: ws) room_1) (fun a U => a = #[(.int xa), (.int xc), (.int xo), (.int xf)] ∧ Z.Warmed39 U.vm ∧ U.heap = h0) (fun _ _ _ _ _ => True) (fun _ U o U' => ∃ v L, o = .returned v ∧ own_Q0 Z xa xc xo xf h0 n0 v U'.heap L ∧ FrameEnd U o U' L room_1.cells room_1.slots) := by
  refine MetFree.of_bodySF (plainFor_of_name own_pn2) hisR ?_
  intro p e s m args below meth c s₁ Bd hml0 hP hK
  obtain ⟨rfl, hZ, hh⟩ := hP
  have hx := Bd.exec
  have hby := Bd.bytes
  have hml : c.maxLocals = 11 := hml0
  have hown : s.vm.findClass "com/example/heronbeck/heronbeck/model/AtLeastMetByPinLaw" = some m.cls := findClass_of_methodNamed Bd.named
  have hnm := (name_of_methodNamed Bd.named Bd.method).1
  have X0 : Stand p l e room_1 s m #[(.int xa), (.int xc), (.int xo), (.int xf)] below meth c s₁ [] 0 0 := Stand.of_body Bd
  have e0 : s₁.heap = h0 := by rw [← hh, Bd.state]; rfl
  have N0 := Fr.nil n0
  have pre0 : ∀ t, Steps p.tables e below (s₁.setTop (mkF m 0 #[.val (.int xa), .val (.int xc), .val (.int xo), .val (.int xf), .unset, .unset, .unset, .unset, .unset, .unset, .unset] [])) t → Steps p.tables e below (s₁.setTop (entryFrame m #[(.int xa), (.int xc), (.int xo), (.int xf)] maxLocals)) t := fun t k => castTop (own_ef0 m xa xc xo xf) k
  have K0 : Keep h0 h0 [] := Keep.refl _ _
  have pre1 : ∀ t, Steps p.tables e below (s₁.setTop (mkF m 3 #[.val (.int xa), .val (.int xc), .val (.int xo), .val (.int xf), .unset, .unset, .unset, .unset, .unset, .unset, .unset] [(.int (xf &&& (1 : Int32)))])) t → Steps p.tables e below (s₁.setTop (entryFrame m #[(.int xa), (.int xc), (.int xo), (.int xf)] maxLocals)) t := by
    intro t k
    refine pre0 _ ?_
    show Steps p.tables e below (s₁.setTop (mkF m 0 #[.val (.int xa), .val (.int xc), .val (.int xo), .val (.int xf), .unset, .unset, .unset, .unset, .unset, .unset, .unset] [])) _
    refine XS.iloadN X0.here hx rfl (hb hby at_0) rfl ?_
    show Steps p.tables e below (s₁.setTop (mkF m 1 #[.val (.int xa), .val (.int xc), .val (.int xo), .val (.int xf), .unset, .unset, .unset, .unset, .unset, .unset, .unset] [(.int xf)])) _
    refine XS.iconst X0.here hx rfl (hb hby at_1) ?_
    show Steps p.tables e below (s₁.setTop (mkF m 2 #[.val (.int xa), .val (.int xc), .val (.int xo), .val (.int xf), .unset, .unset, .unset, .unset, .unset, .unset, .unset] [(.int (1 : Int32)), (.int xf)])) _
    refine XS.iand X0.here hx rfl (hb hby at_2) rfl ?_
    exact k
  by_cases hc3 : (xf &&& (1 : Int32)) = (0 : Int32)
  · obtain ⟨_, _, ⟨T2, L2, k2, n2⟩, -, X2, ⟨Lc2, hQ2, l2, y2, z2⟩, st2⟩ := Jvm.LawKit.callS X0 hx (y := (⟨"java/lang/Math", "max", "(II)I"⟩ : MethodName)) hown (mvT hZ (hw _ (List.mem_of_getElem? (i := 31) rfl))) (mvT hZ (hw _ (List.mem_of_getElem? (i := 32) rfl))) (mvT hZ (hw _ (List.mem_of_getElem? (i := 33) rfl))) (mvT hZ (hw _ (List.mem_of_getElem? (i := 34) rfl))) (by decide) (backOf (W := 0) (own_rm6 l Z a0 hw [] (1 : Int32) (xa &&& (2147483647 : Int32)) h0 n0 Z0 ) hZ (hw _ (List.mem_of_getElem? (i := 34) rfl)) (hw _ (List.mem_of_getElem? (i := 33) rfl)) (by decide) (by decide)) (g := (mkF m 37 #[.val (.int xa), .val (.int xc), .val (.int xo), .val (.int xf), .val (.int (0 : Int32)), .unset, .unset, .unset, .unset, .unset, .unset] [(.int (xa &&& (2147483647 : Int32))), (.int (1 : Int32))])) rfl (by rw [hml]; rfl) (argsL := [(.int (1 : Int32)), (.int (xa &&& (2147483647 : Int32)))]) (rest := []) (lenOf own_pd1 rfl) rfl (by show 2 * 0 + _ ≤ _; exact Nat.le_of_eq rfl) (hb hby at_37) (fun _ _ => ⟨rfl, e0, (by decide : 0 + 0 ≤ _), (by decide : 0 + 0 ≤ _)⟩)
    dsimp only [Pt.U, Pt.locs, Pt.cells, Pt.slots] at X2 l2 y2 z2 st2 hQ2
    subst l2 y2 z2
    obtain ⟨rfl, N2q, eh2⟩ := hQ2
    have N2 := Fr.app N0 N2q
    obtain ⟨v40, hv40⟩ : ∃ w : Int32, w = (own_max (1 : Int32) (xa &&& (2147483647 : Int32))) := ⟨_, rfl⟩
    have pre3 : ∀ t, Steps p.tables e below (T2.setTop (mkF m 42 #[.val (.int xa), .val (.int xc), .val (.int xo), .val (.int xf), .val (.int (0 : Int32)), .val (.int v40), .unset, .unset, .unset, .unset, .unset] [])) t → Steps p.tables e below (s₁.setTop (entryFrame m #[(.int xa), (.int xc), (.int xo), (.int xf)] maxLocals)) t := by
      intro t k
      rw [hv40] at k
      refine pre1 _ ?_
      show Steps p.tables e below (s₁.setTop (mkF m 3 #[.val (.int xa), .val (.int xc), .val (.int xo), .val (.int xf), .unset, .unset, .unset, .unset, .unset, .unset, .unset] [(.int (xf &&& (1 : Int32)))])) _
      refine XS.ifYes X0.here hx rfl (pc0 := 3) (pc' := 10) rfl (hb hby at_3) rfl ((if0 _ _).trans (teq hc3).1) (by decide) (by decide) ?_
      show Steps p.tables e below (s₁.setTop (mkF m 10 #[.val (.int xa), .val (.int xc), .val (.int xo), .val (.int xf), .unset, .unset, .unset, .unset, .unset, .unset, .unset] [])) _
      refine XS.iconst X0.here hx rfl (hb hby at_10) ?_
      show Steps p.tables e below (s₁.setTop (mkF m 11 #[.val (.int xa), .val (.int xc), .val (.int xo), .val (.int xf), .unset, .unset, .unset, .unset, .unset, .unset, .unset] [(.int (0 : Int32))])) _
      refine XS.istore X0.here hx rfl (hb hby at_11) rfl (l' := #[.val (.int xa), .val (.int xc), .val (.int xo), .val (.int xf), .val (.int (0 : Int32)), .unset, .unset, .unset, .unset, .unset, .unset]) rfl ?_
      show Steps p.tables e below (s₁.setTop (mkF m 13 #[.val (.int xa), .val (.int xc), .val (.int xo), .val (.int xf), .val (.int (0 : Int32)), .unset, .unset, .unset, .unset, .unset, .unset] [])) _
      refine XS.iload X0.here hx rfl (hb hby at_13) rfl ?_
      show Steps p.tables e below (s₁.setTop (mkF m 15 #[.val (.int xa), .val (.int xc), .val (.int xo), .val (.int xf), .val (.int (0 : Int32)), .unset, .unset, .unset, .unset, .unset, .unset] [(.int (0 : Int32))])) _
      refine XS.ifYes X0.here hx rfl (pc0 := 15) (pc' := 32) rfl (hb hby at_15) rfl ((if0 _ _).trans (teq rfl).1) (by decide) (by decide) ?_
      show Steps p.tables e below (s₁.setTop (mkF m 32 #[.val (.int xa), .val (.int xc), .val (.int xo), .val (.int xf), .val (.int (0 : Int32)), .unset, .unset, .unset, .unset, .unset, .unset] [])) _
      refine XS.iconst X0.here hx rfl (hb hby at_32) ?_
      show Steps p.tables e below (s₁.setTop (mkF m 33 #[.val (.int xa), .val (.int xc), .val (.int xo), .val (.int xf), .val (.int (0 : Int32)), .unset, .unset, .unset, .unset, .unset, .unset] [(.int (1 : Int32))])) _
      refine XS.iloadN X0.here hx rfl (hb hby at_33) rfl ?_
      show Steps p.tables e below (s₁.setTop (mkF m 34 #[.val (.int xa), .val (.int xc), .val (.int xo), .val (.int xf), .val (.int (0 : Int32)), .unset, .unset, .unset, .unset, .unset, .unset] [(.int xa), (.int (1 : Int32))])) _
      refine X0.ldcInt hx hown (mvT hZ (hw _ (List.mem_of_getElem? (i := 0) rfl))) (g := (mkF m 34 #[.val (.int xa), .val (.int xc), .val (.int xo), .val (.int xf), .val (.int (0 : Int32)), .unset, .unset, .unset, .unset, .unset, .unset] [(.int xa), (.int (1 : Int32))])) rfl (hb hby at_34) _ ?_
      show Steps p.tables e below (s₁.setTop (mkF m 36 #[.val (.int xa), .val (.int xc), .val (.int xo), .val (.int xf), .val (.int (0 : Int32)), .unset, .unset, .unset, .unset, .unset, .unset] [(.int (2147483647 : Int32)), (.int xa), (.int (1 : Int32))])) _
      refine XS.iand X0.here hx rfl (hb hby at_36) rfl ?_
      show Steps p.tables e below (s₁.setTop (mkF m 37 #[.val (.int xa), .val (.int xc), .val (.int xo), .val (.int xf), .val (.int (0 : Int32)), .unset, .unset, .unset, .unset, .unset, .unset] [(.int (xa &&& (2147483647 : Int32))), (.int (1 : Int32))])) _
      refine st2 _ ?_
      show Steps p.tables e below (T2.setTop (mkF m 40 #[.val (.int xa), .val (.int xc), .val (.int xo), .val (.int xf), .val (.int (0 : Int32)), .unset, .unset, .unset, .unset, .unset, .unset] [(.int (own_max (1 : Int32) (xa &&& (2147483647 : Int32))))])) _
      refine XS.istore X2.here hx rfl (hb hby at_40) rfl (l' := #[.val (.int xa), .val (.int xc), .val (.int xo), .val (.int xf), .val (.int (0 : Int32)), .val (.int (own_max (1 : Int32) (xa &&& (2147483647 : Int32)))), .unset, .unset, .unset, .unset, .unset]) rfl ?_
      exact k
    obtain ⟨T4, h4, X4, e4, E4, A4, D4, -, st4⟩ := newO X2 hx hZ hown (hw _ (List.mem_of_getElem? (i := 1) rfl)) (hw _ (List.mem_of_getElem? (i := 2) rfl)) (hw _ (List.mem_of_getElem? (i := 3) rfl)) eh2 (g := (mkF m 42 #[.val (.int xa), .val (.int xc), .val (.int xo), .val (.int xf), .val (.int (0 : Int32)), .val (.int v40), .unset, .unset, .unset, .unset, .unset] [])) rfl (hb hby at_42) (by decide) (by decide)
    obtain ⟨b4, g4⟩ : ∃ z, z = h0.size := ⟨_, rfl⟩
    rw [← g4] at A4 D4 st4
    have g_b4 : n0 ≤ b4 := Nat.le_trans Z0 (Nat.le_of_eq g4.symm)
    have sz_b4 : h0.size ≤ b4 := Nat.le_trans K0.1 (Nat.le_of_eq g4.symm)
    have K4 : Keep h0 h4 [] := K0.ext E4
    have Z4 : n0 ≤ h4.size := Nat.le_trans Z0 E4.1
    have F5 : Fld Z h4 b4 "com/example/heronbeck/heronbeck/model/AtLeast" "amount" "I" (.int (0 : Int32)) := D4 (Or.inr (hw _ (List.mem_of_getElem? (i := 16) rfl))) (ty := .int) (by decide)
    have F6 : Fld Z h4 b4 "com/example/heronbeck/heronbeck/model/AtLeast" "percent" "Z" (.int (0 : Int32)) := D4 (Or.inr (hw _ (List.mem_of_getElem? (i := 18) rfl))) (ty := .boolean) (by decide)
    obtain ⟨_, _, ⟨T7, L7, k7, n7⟩, -, X7, ⟨Lc7, hQ7, l7, y7, z7⟩, st7⟩ := X4.specialBack hx (y := (⟨"com/example/heronbeck/heronbeck/model/AtLeast", "<init>", "(IZ)V"⟩ : MethodName)) rfl hown (mvT hZ (hw _ (List.mem_of_getElem? (i := 4) rfl))) (mvT hZ (hw _ (List.mem_of_getElem? (i := 5) rfl))) (mvT hZ (hw _ (List.mem_of_getElem? (i := 6) rfl))) (by decide) (backOf (W := 1) (own_rm1 l Z a0 hw [] b4 v40 (0 : Int32) h4 n0 Z4 A4 F5 F6 g_b4 (own_ge1 (by rw [hv40]; exact own_am0 _)) (Or.inl rfl)) hZ (hw _ (List.mem_of_getElem? (i := 6) rfl)) (hw _ (List.mem_of_getElem? (i := 3) rfl)) (by decide) (by decide)) (g := (mkF m 50 #[.val (.int xa), .val (.int xc), .val (.int xo), .val (.int xf), .val (.int (0 : Int32)), .val (.int v40), .unset, .unset, .unset, .unset, .unset] [(.int (0 : Int32)), (.int v40), (.ref b4), (.ref b4)])) rfl (by rw [hml]; rfl) (Steps.refl _) (a := b4) (argsL := [(.int v40), (.int (0 : Int32))]) (rest := [(.ref b4)]) (lenOf own_pd2 rfl) rfl (by show 2 * 0 + _ ≤ _; exact Nat.le_of_eq rfl) (hb hby at_50) (fun _ _ => ⟨rfl, e4, (by decide : 1 + 0 ≤ _), (by decide : 2 + 0 ≤ _)⟩)
    dsimp only [Pt.U, Pt.locs, Pt.cells, Pt.slots] at X7 l7 y7 z7 st7 hQ7
    subst l7 y7 z7
    obtain ⟨rfl, N7q, K7q, F8, F9, F10⟩ := hQ7
    have K7 := K7q
    have KK7 : Keep h0 T7.heap [] := K4.trans K7 (allS (Or.inr sz_b4) all0)
    have F11 : Exa Z T7.heap b4 "com/example/heronbeck/heronbeck/model/AtLeast" := A4.keep K7
    have Z7 : n0 ≤ T7.heap.size := Nat.le_trans Z4 K7.1
    have N7 := Fr.app N2 N7q
    obtain ⟨cq12, kq12, q12a, q12b, q12c⟩ := isOf hZ rfl F8
    obtain ⟨_, _, ⟨T12, L12, k12, n12⟩, -, X12, ⟨Lc12, hQ12, l12, y12, z12⟩, st12⟩ := X7.virtualBack hx (y := (⟨"com/example/heronbeck/heronbeck/model/AtLeast", "metBy", "(II)Z"⟩ : MethodName)) (z := (⟨"com/example/heronbeck/heronbeck/model/AtLeast", "metBy", "(II)Z"⟩ : MethodName)) hown (mvT hZ (hw _ (List.mem_of_getElem? (i := 19) rfl))) (mvT hZ (hw _ (List.mem_of_getElem? (i := 20) rfl))) (notFace_of_selects (args := #[]) (mvT hZ (hw _ (List.mem_of_getElem? (i := 22) rfl)))) (mvT hZ (hw _ (List.mem_of_getElem? (i := 22) rfl))) (mvT hZ (hw _ (List.mem_of_getElem? (i := 21) rfl))) (by decide) (backOf (W := 0) (own_rm4 l Z a0 hw [] b4 xc xo v40 ((0 : Int32) &&& 1) T7.heap n0 Z7 F9 F10) hZ (hw _ (List.mem_of_getElem? (i := 23) rfl)) (hw _ (List.mem_of_getElem? (i := 3) rfl)) (by decide) (by decide)) q12a q12c (g := (mkF m 59 #[.val (.int xa), .val (.int xc), .val (.int xo), .val (.int xf), .val (.int (0 : Int32)), .val (.int v40), .val (.ref b4), .unset, .unset, .unset, .unset] [(.int xo), (.int xc), (.ref b4)])) rfl (by rw [hml]; rfl) (Steps.refl _) (argsL := [(.int xc), (.int xo)]) (rest := []) (lenOf own_pd3 rfl) rfl (by show 2 * 0 + _ ≤ _; exact Nat.le_of_eq rfl) (hb hby at_59) (fun _ _ => ⟨rfl, rfl, (by decide : 1 + 0 ≤ _), (by decide : 2 + 0 ≤ _)⟩)
    dsimp only [Pt.U, Pt.locs, Pt.cells, Pt.slots] at X12 l12 y12 z12 st12 hQ12
    subst l12 y12 z12
    obtain ⟨rfl, N12q, eh12⟩ := hQ12
    have N12 := Fr.app N7 N12q
    obtain ⟨got, hgot⟩ : ∃ w : Int32, w = (own_met xc xo v40 ((0 : Int32) &&& 1)) := ⟨_, rfl⟩
    have pre13 : ∀ t, Steps p.tables e below (T12.setTop (mkF m 62 #[.val (.int xa), .val (.int xc), .val (.int xo), .val (.int xf), .val (.int (0 : Int32)), .val (.int v40), .val (.ref b4), .unset, .unset, .unset, .unset] [(.int got)])) t → Steps p.tables e below (s₁.setTop (entryFrame m #[(.int xa), (.int xc), (.int xo), (.int xf)] maxLocals)) t := by
      intro t k
      rw [hgot] at k
      refine pre3 _ ?_
      show Steps p.tables e below (T2.setTop (mkF m 42 #[.val (.int xa), .val (.int xc), .val (.int xo), .val (.int xf), .val (.int (0 : Int32)), .val (.int v40), .unset, .unset, .unset, .unset, .unset] [])) _
      refine st4 _ ?_
      show Steps p.tables e below (T4.setTop (mkF m 45 #[.val (.int xa), .val (.int xc), .val (.int xo), .val (.int xf), .val (.int (0 : Int32)), .val (.int v40), .unset, .unset, .unset, .unset, .unset] [(.ref b4)])) _
      refine XS.dup X4.here hx rfl (hb hby at_45) rfl rfl ?_
      show Steps p.tables e below (T4.setTop (mkF m 46 #[.val (.int xa), .val (.int xc), .val (.int xo), .val (.int xf), .val (.int (0 : Int32)), .val (.int v40), .unset, .unset, .unset, .unset, .unset] [(.ref b4), (.ref b4)])) _
      refine XS.iload X4.here hx rfl (hb hby at_46) rfl ?_
      show Steps p.tables e below (T4.setTop (mkF m 48 #[.val (.int xa), .val (.int xc), .val (.int xo), .val (.int xf), .val (.int (0 : Int32)), .val (.int v40), .unset, .unset, .unset, .unset, .unset] [(.int v40), (.ref b4), (.ref b4)])) _
      refine XS.iload X4.here hx rfl (hb hby at_48) rfl ?_
      show Steps p.tables e below (T4.setTop (mkF m 50 #[.val (.int xa), .val (.int xc), .val (.int xo), .val (.int xf), .val (.int (0 : Int32)), .val (.int v40), .unset, .unset, .unset, .unset, .unset] [(.int (0 : Int32)), (.int v40), (.ref b4), (.ref b4)])) _
      refine st7.trans ?_
      show Steps p.tables e below (T7.setTop (mkF m 53 #[.val (.int xa), .val (.int xc), .val (.int xo), .val (.int xf), .val (.int (0 : Int32)), .val (.int v40), .unset, .unset, .unset, .unset, .unset] [(.ref b4)])) _
      refine XS.astore X7.here hx rfl (hb hby at_53) rfl rfl (l' := #[.val (.int xa), .val (.int xc), .val (.int xo), .val (.int xf), .val (.int (0 : Int32)), .val (.int v40), .val (.ref b4), .unset, .unset, .unset, .unset]) rfl ?_
      show Steps p.tables e below (T7.setTop (mkF m 55 #[.val (.int xa), .val (.int xc), .val (.int xo), .val (.int xf), .val (.int (0 : Int32)), .val (.int v40), .val (.ref b4), .unset, .unset, .unset, .unset] [])) _
      refine XS.aload X7.here hx rfl (hb hby at_55) rfl rfl ?_
      show Steps p.tables e below (T7.setTop (mkF m 57 #[.val (.int xa), .val (.int xc), .val (.int xo), .val (.int xf), .val (.int (0 : Int32)), .val (.int v40), .val (.ref b4), .unset, .unset, .unset, .unset] [(.ref b4)])) _
      refine XS.iloadN X7.here hx rfl (hb hby at_57) rfl ?_
      show Steps p.tables e below (T7.setTop (mkF m 58 #[.val (.int xa), .val (.int xc), .val (.int xo), .val (.int xf), .val (.int (0 : Int32)), .val (.int v40), .val (.ref b4), .unset, .unset, .unset, .unset] [(.int xc), (.ref b4)])) _
      refine XS.iloadN X7.here hx rfl (hb hby at_58) rfl ?_
      show Steps p.tables e below (T7.setTop (mkF m 59 #[.val (.int xa), .val (.int xc), .val (.int xo), .val (.int xf), .val (.int (0 : Int32)), .val (.int v40), .val (.ref b4), .unset, .unset, .unset, .unset] [(.int xo), (.int xc), (.ref b4)])) _
      refine st12.trans ?_
      exact k
    have pre14 : ∀ t, Steps p.tables e below (T12.setTop (mkF m 65 #[.val (.int xa), .val (.int xc), .val (.int xo), .val (.int xf), .val (.int (0 : Int32)), .val (.int v40), .val (.ref b4), .val (.int got), .unset, .unset, .unset] [(.int xc)])) t → Steps p.tables e below (s₁.setTop (entryFrame m #[(.int xa), (.int xc), (.int xo), (.int xf)] maxLocals)) t := by
      intro t k
      refine pre13 _ ?_
      show Steps p.tables e below (T12.setTop (mkF m 62 #[.val (.int xa), .val (.int xc), .val (.int xo), .val (.int xf), .val (.int (0 : Int32)), .val (.int v40), .val (.ref b4), .unset, .unset, .unset, .unset] [(.int got)])) _
      refine XS.istore X12.here hx rfl (hb hby at_62) rfl (l' := #[.val (.int xa), .val (.int xc), .val (.int xo), .val (.int xf), .val (.int (0 : Int32)), .val (.int v40), .val (.ref b4), .val (.int got), .unset, .unset, .unset]) rfl ?_
      show Steps p.tables e below (T12.setTop (mkF m 64 #[.val (.int xa), .val (.int xc), .val (.int xo), .val (.int xf), .val (.int (0 : Int32)), .val (.int v40), .val (.ref b4), .val (.int got), .unset, .unset, .unset] [])) _
      refine XS.iloadN X12.here hx rfl (hb hby at_64) rfl ?_
      exact k
    by_cases hc65 : xc = (0 : Int32)
    · have hd15 : got = (0 : Int32) := (by rw [hgot]; simp [own_met, hc65])
      obtain ⟨fs, hr, hrun, hended, hW, hsame⟩ := X12.leave (v := some (.int (1 : Int32))) (fun h => by rw [Bd.returns] at h; cases h)
      refine ⟨_, _, pre14 _ ?_, hrun, hended, _, _, rfl, ?_, ⟨_, rfl⟩, hW, hsame.mono (by decide) (by decide)⟩
      · show Steps p.tables e below (T12.setTop (mkF m 65 #[.val (.int xa), .val (.int xc), .val (.int xo), .val (.int xf), .val (.int (0 : Int32)), .val (.int v40), .val (.ref b4), .val (.int got), .unset, .unset, .unset] [(.int xc)])) _
        refine XS.ifNo X12.here hx rfl (hb hby at_65) rfl ((if0 _ _).trans (teq hc65).2) ?_
        show Steps p.tables e below (T12.setTop (mkF m 68 #[.val (.int xa), .val (.int xc), .val (.int xo), .val (.int xf), .val (.int (0 : Int32)), .val (.int v40), .val (.ref b4), .val (.int got), .unset, .unset, .unset] [])) _
        refine XS.iconst X12.here hx rfl (hb hby at_68) ?_
        show Steps p.tables e below (T12.setTop (mkF m 69 #[.val (.int xa), .val (.int xc), .val (.int xo), .val (.int xf), .val (.int (0 : Int32)), .val (.int v40), .val (.ref b4), .val (.int got), .unset, .unset, .unset] [(.int (0 : Int32))])) _
        refine XS.istore X12.here hx rfl (hb hby at_69) rfl (l' := #[.val (.int xa), .val (.int xc), .val (.int xo), .val (.int xf), .val (.int (0 : Int32)), .val (.int v40), .val (.ref b4), .val (.int got), .val (.int (0 : Int32)), .unset, .unset]) rfl ?_
        show Steps p.tables e below (T12.setTop (mkF m 71 #[.val (.int xa), .val (.int xc), .val (.int xo), .val (.int xf), .val (.int (0 : Int32)), .val (.int v40), .val (.ref b4), .val (.int got), .val (.int (0 : Int32)), .unset, .unset] [])) _
        refine XS.goto X12.here hx rfl (pc0 := 71) (pc' := 121) rfl (hb hby at_71) (by decide) (by decide) ?_
        show Steps p.tables e below (T12.setTop (mkF m 121 #[.val (.int xa), .val (.int xc), .val (.int xo), .val (.int xf), .val (.int (0 : Int32)), .val (.int v40), .val (.ref b4), .val (.int got), .val (.int (0 : Int32)), .unset, .unset] [])) _
        refine XS.iload X12.here hx rfl (hb hby at_121) rfl ?_
        show Steps p.tables e below (T12.setTop (mkF m 123 #[.val (.int xa), .val (.int xc), .val (.int xo), .val (.int xf), .val (.int (0 : Int32)), .val (.int v40), .val (.ref b4), .val (.int got), .val (.int (0 : Int32)), .unset, .unset] [(.int got)])) _
        refine XS.iload X12.here hx rfl (hb hby at_123) rfl ?_
        show Steps p.tables e below (T12.setTop (mkF m 125 #[.val (.int xa), .val (.int xc), .val (.int xo), .val (.int xf), .val (.int (0 : Int32)), .val (.int v40), .val (.ref b4), .val (.int got), .val (.int (0 : Int32)), .unset, .unset] [(.int (0 : Int32)), (.int got)])) _
        refine XS.icmpNo X12.here hx rfl (hb hby at_125) rfl (teq hd15).2 ?_
        show Steps p.tables e below (T12.setTop (mkF m 128 #[.val (.int xa), .val (.int xc), .val (.int xo), .val (.int xf), .val (.int (0 : Int32)), .val (.int v40), .val (.ref b4), .val (.int got), .val (.int (0 : Int32)), .unset, .unset] [])) _
        refine XS.iconst X12.here hx rfl (hb hby at_128) ?_
        show Steps p.tables e below (T12.setTop (mkF m 129 #[.val (.int xa), .val (.int xc), .val (.int xo), .val (.int xf), .val (.int (0 : Int32)), .val (.int v40), .val (.ref b4), .val (.int got), .val (.int (0 : Int32)), .unset, .unset] [(.int (1 : Int32))])) _
        refine XS.goto X12.here hx rfl (pc0 := 129) (pc' := 133) rfl (hb hby at_129) (by decide) (by decide) ?_
        show Steps p.tables e below (T12.setTop (mkF m 133 #[.val (.int xa), .val (.int xc), .val (.int xo), .val (.int xf), .val (.int (0 : Int32)), .val (.int v40), .val (.ref b4), .val (.int got), .val (.int (0 : Int32)), .unset, .unset] [(.int (1 : Int32))])) _
        exact retN X12 hx (t := .boolean) Bd.returns (by simp) (hb hby at_133) hr
      · show own_Q0 Z xa xc xo xf h0 n0 _ T12.heap _
        rw [eh12]
        exact ⟨rfl, N12⟩
    · have pre16 : ∀ t, Steps p.tables e below (T12.setTop (mkF m 82 #[.val (.int xa), .val (.int xc), .val (.int xo), .val (.int xf), .val (.int (0 : Int32)), .val (.int v40), .val (.ref b4), .val (.int got), .unset, .unset, .unset] [(.int v40), (.int xc)])) t → Steps p.tables e below (s₁.setTop (entryFrame m #[(.int xa), (.int xc), (.int xo), (.int xf)] maxLocals)) t := by
        intro t k
        refine pre14 _ ?_
        show Steps p.tables e below (T12.setTop (mkF m 65 #[.val (.int xa), .val (.int xc), .val (.int xo), .val (.int xf), .val (.int (0 : Int32)), .val (.int v40), .val (.ref b4), .val (.int got), .unset, .unset, .unset] [(.int xc)])) _
        refine XS.ifYes X12.here hx rfl (pc0 := 65) (pc' := 74) rfl (hb hby at_65) rfl ((if0 _ _).trans (feq hc65).2) (by decide) (by decide) ?_
        show Steps p.tables e below (T12.setTop (mkF m 74 #[.val (.int xa), .val (.int xc), .val (.int xo), .val (.int xf), .val (.int (0 : Int32)), .val (.int v40), .val (.ref b4), .val (.int got), .unset, .unset, .unset] [])) _
        refine XS.iload X12.here hx rfl (hb hby at_74) rfl ?_
        show Steps p.tables e below (T12.setTop (mkF m 76 #[.val (.int xa), .val (.int xc), .val (.int xo), .val (.int xf), .val (.int (0 : Int32)), .val (.int v40), .val (.ref b4), .val (.int got), .unset, .unset, .unset] [(.int (0 : Int32))])) _
        refine XS.ifNo X12.here hx rfl (hb hby at_76) rfl ((if0 _ _).trans (teq rfl).2) ?_
        show Steps p.tables e below (T12.setTop (mkF m 79 #[.val (.int xa), .val (.int xc), .val (.int xo), .val (.int xf), .val (.int (0 : Int32)), .val (.int v40), .val (.ref b4), .val (.int got), .unset, .unset, .unset] [])) _
        refine XS.iloadN X12.here hx rfl (hb hby at_79) rfl ?_
        show Steps p.tables e below (T12.setTop (mkF m 80 #[.val (.int xa), .val (.int xc), .val (.int xo), .val (.int xf), .val (.int (0 : Int32)), .val (.int v40), .val (.ref b4), .val (.int got), .unset, .unset, .unset] [(.int xc)])) _
        refine XS.iload X12.here hx rfl (hb hby at_80) rfl ?_
        exact k
      by_cases hc82 : xc < v40
      · have hd17 : got = (0 : Int32) := (by rw [hgot]; simp [own_met, hc65, hc82])
        obtain ⟨fs, hr, hrun, hended, hW, hsame⟩ := X12.leave (v := some (.int (1 : Int32))) (fun h => by rw [Bd.returns] at h; cases h)
        refine ⟨_, _, pre16 _ ?_, hrun, hended, _, _, rfl, ?_, ⟨_, rfl⟩, hW, hsame.mono (by decide) (by decide)⟩
        · show Steps p.tables e below (T12.setTop (mkF m 82 #[.val (.int xa), .val (.int xc), .val (.int xo), .val (.int xf), .val (.int (0 : Int32)), .val (.int v40), .val (.ref b4), .val (.int got), .unset, .unset, .unset] [(.int v40), (.int xc)])) _
          refine XS.icmpYes X12.here hx rfl (pc0 := 82) (pc' := 89) rfl (hb hby at_82) rfl (tlt hc82).1 (by decide) (by decide) ?_
          show Steps p.tables e below (T12.setTop (mkF m 89 #[.val (.int xa), .val (.int xc), .val (.int xo), .val (.int xf), .val (.int (0 : Int32)), .val (.int v40), .val (.ref b4), .val (.int got), .unset, .unset, .unset] [])) _
          refine XS.iconst X12.here hx rfl (hb hby at_89) ?_
          show Steps p.tables e below (T12.setTop (mkF m 90 #[.val (.int xa), .val (.int xc), .val (.int xo), .val (.int xf), .val (.int (0 : Int32)), .val (.int v40), .val (.ref b4), .val (.int got), .unset, .unset, .unset] [(.int (0 : Int32))])) _
          refine XS.istore X12.here hx rfl (hb hby at_90) rfl (l' := #[.val (.int xa), .val (.int xc), .val (.int xo), .val (.int xf), .val (.int (0 : Int32)), .val (.int v40), .val (.ref b4), .val (.int got), .val (.int (0 : Int32)), .unset, .unset]) rfl ?_
          show Steps p.tables e below (T12.setTop (mkF m 92 #[.val (.int xa), .val (.int xc), .val (.int xo), .val (.int xf), .val (.int (0 : Int32)), .val (.int v40), .val (.ref b4), .val (.int got), .val (.int (0 : Int32)), .unset, .unset] [])) _
          refine XS.goto X12.here hx rfl (pc0 := 92) (pc' := 121) rfl (hb hby at_92) (by decide) (by decide) ?_
          show Steps p.tables e below (T12.setTop (mkF m 121 #[.val (.int xa), .val (.int xc), .val (.int xo), .val (.int xf), .val (.int (0 : Int32)), .val (.int v40), .val (.ref b4), .val (.int got), .val (.int (0 : Int32)), .unset, .unset] [])) _
          refine XS.iload X12.here hx rfl (hb hby at_121) rfl ?_
          show Steps p.tables e below (T12.setTop (mkF m 123 #[.val (.int xa), .val (.int xc), .val (.int xo), .val (.int xf), .val (.int (0 : Int32)), .val (.int v40), .val (.ref b4), .val (.int got), .val (.int (0 : Int32)), .unset, .unset] [(.int got)])) _
          refine XS.iload X12.here hx rfl (hb hby at_123) rfl ?_
          show Steps p.tables e below (T12.setTop (mkF m 125 #[.val (.int xa), .val (.int xc), .val (.int xo), .val (.int xf), .val (.int (0 : Int32)), .val (.int v40), .val (.ref b4), .val (.int got), .val (.int (0 : Int32)), .unset, .unset] [(.int (0 : Int32)), (.int got)])) _
          refine XS.icmpNo X12.here hx rfl (hb hby at_125) rfl (teq hd17).2 ?_
          show Steps p.tables e below (T12.setTop (mkF m 128 #[.val (.int xa), .val (.int xc), .val (.int xo), .val (.int xf), .val (.int (0 : Int32)), .val (.int v40), .val (.ref b4), .val (.int got), .val (.int (0 : Int32)), .unset, .unset] [])) _
          refine XS.iconst X12.here hx rfl (hb hby at_128) ?_
          show Steps p.tables e below (T12.setTop (mkF m 129 #[.val (.int xa), .val (.int xc), .val (.int xo), .val (.int xf), .val (.int (0 : Int32)), .val (.int v40), .val (.ref b4), .val (.int got), .val (.int (0 : Int32)), .unset, .unset] [(.int (1 : Int32))])) _
          refine XS.goto X12.here hx rfl (pc0 := 129) (pc' := 133) rfl (hb hby at_129) (by decide) (by decide) ?_
          show Steps p.tables e below (T12.setTop (mkF m 133 #[.val (.int xa), .val (.int xc), .val (.int xo), .val (.int xf), .val (.int (0 : Int32)), .val (.int v40), .val (.ref b4), .val (.int got), .val (.int (0 : Int32)), .unset, .unset] [(.int (1 : Int32))])) _
          exact retN X12 hx (t := .boolean) Bd.returns (by simp) (hb hby at_133) hr
        · show own_Q0 Z xa xc xo xf h0 n0 _ T12.heap _
          rw [eh12]
          exact ⟨rfl, N12⟩
      · have hd18 : got = (1 : Int32) := (by rw [hgot]; simp [own_met, hc65, hc82])
        obtain ⟨fs, hr, hrun, hended, hW, hsame⟩ := X12.leave (v := some (.int (1 : Int32))) (fun h => by rw [Bd.returns] at h; cases h)
        refine ⟨_, _, pre16 _ ?_, hrun, hended, _, _, rfl, ?_, ⟨_, rfl⟩, hW, hsame.mono (by decide) (by decide)⟩
        · show Steps p.tables e below (T12.setTop (mkF m 82 #[.val (.int xa), .val (.int xc), .val (.int xo), .val (.int xf), .val (.int (0 : Int32)), .val (.int v40), .val (.ref b4), .val (.int got), .unset, .unset, .unset] [(.int v40), (.int xc)])) _
          refine XS.icmpNo X12.here hx rfl (hb hby at_82) rfl (flt hc82).1 ?_
          show Steps p.tables e below (T12.setTop (mkF m 85 #[.val (.int xa), .val (.int xc), .val (.int xo), .val (.int xf), .val (.int (0 : Int32)), .val (.int v40), .val (.ref b4), .val (.int got), .unset, .unset, .unset] [])) _
          refine XS.iconst X12.here hx rfl (hb hby at_85) ?_
          show Steps p.tables e below (T12.setTop (mkF m 86 #[.val (.int xa), .val (.int xc), .val (.int xo), .val (.int xf), .val (.int (0 : Int32)), .val (.int v40), .val (.ref b4), .val (.int got), .unset, .unset, .unset] [(.int (1 : Int32))])) _
          refine XS.goto X12.here hx rfl (pc0 := 86) (pc' := 90) rfl (hb hby at_86) (by decide) (by decide) ?_
          show Steps p.tables e below (T12.setTop (mkF m 90 #[.val (.int xa), .val (.int xc), .val (.int xo), .val (.int xf), .val (.int (0 : Int32)), .val (.int v40), .val (.ref b4), .val (.int got), .unset, .unset, .unset] [(.int (1 : Int32))])) _
          refine XS.istore X12.here hx rfl (hb hby at_90) rfl (l' := #[.val (.int xa), .val (.int xc), .val (.int xo), .val (.int xf), .val (.int (0 : Int32)), .val (.int v40), .val (.ref b4), .val (.int got), .val (.int (1 : Int32)), .unset, .unset]) rfl ?_
          show Steps p.tables e below (T12.setTop (mkF m 92 #[.val (.int xa), .val (.int xc), .val (.int xo), .val (.int xf), .val (.int (0 : Int32)), .val (.int v40), .val (.ref b4), .val (.int got), .val (.int (1 : Int32)), .unset, .unset] [])) _
          refine XS.goto X12.here hx rfl (pc0 := 92) (pc' := 121) rfl (hb hby at_92) (by decide) (by decide) ?_
          show Steps p.tables e below (T12.setTop (mkF m 121 #[.val (.int xa), .val (.int xc), .val (.int xo), .val (.int xf), .val (.int (0 : Int32)), .val (.int v40), .val (.ref b4), .val (.int got), .val (.int (1 : Int32)), .unset, .unset] [])) _
          refine XS.iload X12.here hx rfl (hb hby at_121) rfl ?_
          show Steps p.tables e below (T12.setTop (mkF m 123 #[.val (.int xa), .val (.int xc), .val (.int xo), .val (.int xf), .val (.int (0 : Int32)), .val (.int v40), .val (.ref b4), .val (.int got), .val (.int (1 : Int32)), .unset, .unset] [(.int got)])) _
          refine XS.iload X12.here hx rfl (hb hby at_123) rfl ?_
          show Steps p.tables e below (T12.setTop (mkF m 125 #[.val (.int xa), .val (.int xc), .val (.int xo), .val (.int xf), .val (.int (0 : Int32)), .val (.int v40), .val (.ref b4), .val (.int got), .val (.int (1 : Int32)), .unset, .unset] [(.int (1 : Int32)), (.int got)])) _
          refine XS.icmpNo X12.here hx rfl (hb hby at_125) rfl (teq hd18).2 ?_
          show Steps p.tables e below (T12.setTop (mkF m 128 #[.val (.int xa), .val (.int xc), .val (.int xo), .val (.int xf), .val (.int (0 : Int32)), .val (.int v40), .val (.ref b4), .val (.int got), .val (.int (1 : Int32)), .unset, .unset] [])) _
          refine XS.iconst X12.here hx rfl (hb hby at_128) ?_
          show Steps p.tables e below (T12.setTop (mkF m 129 #[.val (.int xa), .val (.int xc), .val (.int xo), .val (.int xf), .val (.int (0 : Int32)), .val (.int v40), .val (.ref b4), .val (.int got), .val (.int (1 : Int32)), .unset, .unset] [(.int (1 : Int32))])) _
          refine XS.goto X12.here hx rfl (pc0 := 129) (pc' := 133) rfl (hb hby at_129) (by decide) (by decide) ?_
          show Steps p.tables e below (T12.setTop (mkF m 133 #[.val (.int xa), .val (.int xc), .val (.int xo), .val (.int xf), .val (.int (0 : Int32)), .val (.int v40), .val (.ref b4), .val (.int got), .val (.int (1 : Int32)), .unset, .unset] [(.int (1 : Int32))])) _
          exact retN X12 hx (t := .boolean) Bd.returns (by simp) (hb hby at_133) hr
        · show own_Q0 Z xa xc xo xf h0 n0 _ T12.heap _
          rw [eh12]
          exact ⟨rfl, N12⟩
  · have hd19 : ¬ ((1 : Int32) = (0 : Int32)) := (by decide)
    obtain ⟨v27, hv27⟩ : ∃ w : Int32, w = ((1 : Int32) + ((xa &&& (2147483647 : Int32)) % (100 : Int32))) := ⟨_, rfl⟩
    have pre20 : ∀ t, Steps p.tables e below (s₁.setTop (mkF m 29 #[.val (.int xa), .val (.int xc), .val (.int xo), .val (.int xf), .val (.int (1 : Int32)), .val (.int v27), .unset, .unset, .unset, .unset, .unset] [])) t → Steps p.tables e below (s₁.setTop (entryFrame m #[(.int xa), (.int xc), (.int xo), (.int xf)] maxLocals)) t := by
      intro t k
      rw [hv27] at k
      refine pre1 _ ?_
      show Steps p.tables e below (s₁.setTop (mkF m 3 #[.val (.int xa), .val (.int xc), .val (.int xo), .val (.int xf), .unset, .unset, .unset, .unset, .unset, .unset, .unset] [(.int (xf &&& (1 : Int32)))])) _
      refine XS.ifNo X0.here hx rfl (hb hby at_3) rfl ((if0 _ _).trans (feq hc3).1) ?_
      show Steps p.tables e below (s₁.setTop (mkF m 6 #[.val (.int xa), .val (.int xc), .val (.int xo), .val (.int xf), .unset, .unset, .unset, .unset, .unset, .unset, .unset] [])) _
      refine XS.iconst X0.here hx rfl (hb hby at_6) ?_
      show Steps p.tables e below (s₁.setTop (mkF m 7 #[.val (.int xa), .val (.int xc), .val (.int xo), .val (.int xf), .unset, .unset, .unset, .unset, .unset, .unset, .unset] [(.int (1 : Int32))])) _
      refine XS.goto X0.here hx rfl (pc0 := 7) (pc' := 11) rfl (hb hby at_7) (by decide) (by decide) ?_
      show Steps p.tables e below (s₁.setTop (mkF m 11 #[.val (.int xa), .val (.int xc), .val (.int xo), .val (.int xf), .unset, .unset, .unset, .unset, .unset, .unset, .unset] [(.int (1 : Int32))])) _
      refine XS.istore X0.here hx rfl (hb hby at_11) rfl (l' := #[.val (.int xa), .val (.int xc), .val (.int xo), .val (.int xf), .val (.int (1 : Int32)), .unset, .unset, .unset, .unset, .unset, .unset]) rfl ?_
      show Steps p.tables e below (s₁.setTop (mkF m 13 #[.val (.int xa), .val (.int xc), .val (.int xo), .val (.int xf), .val (.int (1 : Int32)), .unset, .unset, .unset, .unset, .unset, .unset] [])) _
      refine XS.iload X0.here hx rfl (hb hby at_13) rfl ?_
      show Steps p.tables e below (s₁.setTop (mkF m 15 #[.val (.int xa), .val (.int xc), .val (.int xo), .val (.int xf), .val (.int (1 : Int32)), .unset, .unset, .unset, .unset, .unset, .unset] [(.int (1 : Int32))])) _
      refine XS.ifNo X0.here hx rfl (hb hby at_15) rfl ((if0 _ _).trans (feq hd19).1) ?_
      show Steps p.tables e below (s₁.setTop (mkF m 18 #[.val (.int xa), .val (.int xc), .val (.int xo), .val (.int xf), .val (.int (1 : Int32)), .unset, .unset, .unset, .unset, .unset, .unset] [])) _
      refine XS.iconst X0.here hx rfl (hb hby at_18) ?_
      show Steps p.tables e below (s₁.setTop (mkF m 19 #[.val (.int xa), .val (.int xc), .val (.int xo), .val (.int xf), .val (.int (1 : Int32)), .unset, .unset, .unset, .unset, .unset, .unset] [(.int (1 : Int32))])) _
      refine XS.iloadN X0.here hx rfl (hb hby at_19) rfl ?_
      show Steps p.tables e below (s₁.setTop (mkF m 20 #[.val (.int xa), .val (.int xc), .val (.int xo), .val (.int xf), .val (.int (1 : Int32)), .unset, .unset, .unset, .unset, .unset, .unset] [(.int xa), (.int (1 : Int32))])) _
      refine X0.ldcInt hx hown (mvT hZ (hw _ (List.mem_of_getElem? (i := 0) rfl))) (g := (mkF m 20 #[.val (.int xa), .val (.int xc), .val (.int xo), .val (.int xf), .val (.int (1 : Int32)), .unset, .unset, .unset, .unset, .unset, .unset] [(.int xa), (.int (1 : Int32))])) rfl (hb hby at_20) _ ?_
      show Steps p.tables e below (s₁.setTop (mkF m 22 #[.val (.int xa), .val (.int xc), .val (.int xo), .val (.int xf), .val (.int (1 : Int32)), .unset, .unset, .unset, .unset, .unset, .unset] [(.int (2147483647 : Int32)), (.int xa), (.int (1 : Int32))])) _
      refine XS.iand X0.here hx rfl (hb hby at_22) rfl ?_
      show Steps p.tables e below (s₁.setTop (mkF m 23 #[.val (.int xa), .val (.int xc), .val (.int xo), .val (.int xf), .val (.int (1 : Int32)), .unset, .unset, .unset, .unset, .unset, .unset] [(.int (xa &&& (2147483647 : Int32))), (.int (1 : Int32))])) _
      refine XS.bipush X0.here hx rfl (hb hby at_23) ?_
      show Steps p.tables e below (s₁.setTop (mkF m 25 #[.val (.int xa), .val (.int xc), .val (.int xo), .val (.int xf), .val (.int (1 : Int32)), .unset, .unset, .unset, .unset, .unset, .unset] [(.int (100 : Int32)), (.int (xa &&& (2147483647 : Int32))), (.int (1 : Int32))])) _
      refine iremM X0 hx rfl (hb hby at_25) rfl (by decide) ?_
      show Steps p.tables e below (s₁.setTop (mkF m 26 #[.val (.int xa), .val (.int xc), .val (.int xo), .val (.int xf), .val (.int (1 : Int32)), .unset, .unset, .unset, .unset, .unset, .unset] [(.int ((xa &&& (2147483647 : Int32)) % (100 : Int32))), (.int (1 : Int32))])) _
      refine XS.iadd X0.here hx rfl (hb hby at_26) rfl ?_
      show Steps p.tables e below (s₁.setTop (mkF m 27 #[.val (.int xa), .val (.int xc), .val (.int xo), .val (.int xf), .val (.int (1 : Int32)), .unset, .unset, .unset, .unset, .unset, .unset] [(.int ((1 : Int32) + ((xa &&& (2147483647 : Int32)) % (100 : Int32))))])) _
      refine XS.istore X0.here hx rfl (hb hby at_27) rfl (l' := #[.val (.int xa), .val (.int xc), .val (.int xo), .val (.int xf), .val (.int (1 : Int32)), .val (.int ((1 : Int32) + ((xa &&& (2147483647 : Int32)) % (100 : Int32)))), .unset, .unset, .unset, .unset, .unset]) rfl ?_
      exact k
    obtain ⟨T21, h21, X21, e21, E21, A21, D21, -, st21⟩ := newO X0 hx hZ hown (hw _ (List.mem_of_getElem? (i := 1) rfl)) (hw _ (List.mem_of_getElem? (i := 2) rfl)) (hw _ (List.mem_of_getElem? (i := 3) rfl)) e0 (g := (mkF m 42 #[.val (.int xa), .val (.int xc), .val (.int xo), .val (.int xf), .val (.int (1 : Int32)), .val (.int v27), .unset, .unset, .unset, .unset, .unset] [])) rfl (hb hby at_42) (by decide) (by decide)
    obtain ⟨b21, g21⟩ : ∃ z, z = h0.size := ⟨_, rfl⟩
    rw [← g21] at A21 D21 st21
    have g_b21 : n0 ≤ b21 := Nat.le_trans Z0 (Nat.le_of_eq g21.symm)
    have sz_b21 : h0.size ≤ b21 := Nat.le_trans K0.1 (Nat.le_of_eq g21.symm)
    have K21 : Keep h0 h21 [] := K0.ext E21
    have Z21 : n0 ≤ h21.size := Nat.le_trans Z0 E21.1
    have F22 : Fld Z h21 b21 "com/example/heronbeck/heronbeck/model/AtLeast" "amount" "I" (.int (0 : Int32)) := D21 (Or.inr (hw _ (List.mem_of_getElem? (i := 16) rfl))) (ty := .int) (by decide)
    have F23 : Fld Z h21 b21 "com/example/heronbeck/heronbeck/model/AtLeast" "percent" "Z" (.int (0 : Int32)) := D21 (Or.inr (hw _ (List.mem_of_getElem? (i := 18) rfl))) (ty := .boolean) (by decide)
    obtain ⟨_, _, ⟨T24, L24, k24, n24⟩, -, X24, ⟨Lc24, hQ24, l24, y24, z24⟩, st24⟩ := X21.specialBack hx (y := (⟨"com/example/heronbeck/heronbeck/model/AtLeast", "<init>", "(IZ)V"⟩ : MethodName)) rfl hown (mvT hZ (hw _ (List.mem_of_getElem? (i := 4) rfl))) (mvT hZ (hw _ (List.mem_of_getElem? (i := 5) rfl))) (mvT hZ (hw _ (List.mem_of_getElem? (i := 6) rfl))) (by decide) (backOf (W := 1) (own_rm1 l Z a0 hw [] b21 v27 (1 : Int32) h21 n0 Z21 A21 F22 F23 g_b21 (own_ge1 (by rw [hv27]; exact (own_am1 _).1)) (Or.inr (own_le100 (by rw [hv27]; exact (own_am1 _).2)))) hZ (hw _ (List.mem_of_getElem? (i := 6) rfl)) (hw _ (List.mem_of_getElem? (i := 3) rfl)) (by decide) (by decide)) (g := (mkF m 50 #[.val (.int xa), .val (.int xc), .val (.int xo), .val (.int xf), .val (.int (1 : Int32)), .val (.int v27), .unset, .unset, .unset, .unset, .unset] [(.int (1 : Int32)), (.int v27), (.ref b21), (.ref b21)])) rfl (by rw [hml]; rfl) (Steps.refl _) (a := b21) (argsL := [(.int v27), (.int (1 : Int32))]) (rest := [(.ref b21)]) (lenOf own_pd2 rfl) rfl (by show 2 * 0 + _ ≤ _; exact Nat.le_of_eq rfl) (hb hby at_50) (fun _ _ => ⟨rfl, e21, (by decide : 1 + 0 ≤ _), (by decide : 2 + 0 ≤ _)⟩)
    dsimp only [Pt.U, Pt.locs, Pt.cells, Pt.slots] at X24 l24 y24 z24 st24 hQ24
    subst l24 y24 z24
    obtain ⟨rfl, N24q, K24q, F25, F26, F27⟩ := hQ24
    have K24 := K24q
    have KK24 : Keep h0 T24.heap [] := K21.trans K24 (allS (Or.inr sz_b21) all0)
    have F28 : Exa Z T24.heap b21 "com/example/heronbeck/heronbeck/model/AtLeast" := A21.keep K24
    have Z24 : n0 ≤ T24.heap.size := Nat.le_trans Z21 K24.1
    have N24 := Fr.app N0 N24q
    obtain ⟨cq29, kq29, q29a, q29b, q29c⟩ := isOf hZ rfl F25
    obtain ⟨_, _, ⟨T29, L29, k29, n29⟩, -, X29, ⟨Lc29, hQ29, l29, y29, z29⟩, st29⟩ := X24.virtualBack hx (y := (⟨"com/example/heronbeck/heronbeck/model/AtLeast", "metBy", "(II)Z"⟩ : MethodName)) (z := (⟨"com/example/heronbeck/heronbeck/model/AtLeast", "metBy", "(II)Z"⟩ : MethodName)) hown (mvT hZ (hw _ (List.mem_of_getElem? (i := 19) rfl))) (mvT hZ (hw _ (List.mem_of_getElem? (i := 20) rfl))) (notFace_of_selects (args := #[]) (mvT hZ (hw _ (List.mem_of_getElem? (i := 22) rfl)))) (mvT hZ (hw _ (List.mem_of_getElem? (i := 22) rfl))) (mvT hZ (hw _ (List.mem_of_getElem? (i := 21) rfl))) (by decide) (backOf (W := 0) (own_rm4 l Z a0 hw [] b21 xc xo v27 ((1 : Int32) &&& 1) T24.heap n0 Z24 F26 F27) hZ (hw _ (List.mem_of_getElem? (i := 23) rfl)) (hw _ (List.mem_of_getElem? (i := 3) rfl)) (by decide) (by decide)) q29a q29c (g := (mkF m 59 #[.val (.int xa), .val (.int xc), .val (.int xo), .val (.int xf), .val (.int (1 : Int32)), .val (.int v27), .val (.ref b21), .unset, .unset, .unset, .unset] [(.int xo), (.int xc), (.ref b21)])) rfl (by rw [hml]; rfl) (Steps.refl _) (argsL := [(.int xc), (.int xo)]) (rest := []) (lenOf own_pd3 rfl) rfl (by show 2 * 0 + _ ≤ _; exact Nat.le_of_eq rfl) (hb hby at_59) (fun _ _ => ⟨rfl, rfl, (by decide : 1 + 0 ≤ _), (by decide : 2 + 0 ≤ _)⟩)
    dsimp only [Pt.U, Pt.locs, Pt.cells, Pt.slots] at X29 l29 y29 z29 st29 hQ29
    subst l29 y29 z29
    obtain ⟨rfl, N29q, eh29⟩ := hQ29
    have N29 := Fr.app N24 N29q
    obtain ⟨got, hgot⟩ : ∃ w : Int32, w = (own_met xc xo v27 ((1 : Int32) &&& 1)) := ⟨_, rfl⟩
    have pre30 : ∀ t, Steps p.tables e below (T29.setTop (mkF m 62 #[.val (.int xa), .val (.int xc), .val (.int xo), .val (.int xf), .val (.int (1 : Int32)), .val (.int v27), .val (.ref b21), .unset, .unset, .unset, .unset] [(.int got)])) t → Steps p.tables e below (s₁.setTop (entryFrame m #[(.int xa), (.int xc), (.int xo), (.int xf)] maxLocals)) t := by
      intro t k
      rw [hgot] at k
      refine pre20 _ ?_
      show Steps p.tables e below (s₁.setTop (mkF m 29 #[.val (.int xa), .val (.int xc), .val (.int xo), .val (.int xf), .val (.int (1 : Int32)), .val (.int v27), .unset, .unset, .unset, .unset, .unset] [])) _
      refine XS.goto X0.here hx rfl (pc0 := 29) (pc' := 42) rfl (hb hby at_29) (by decide) (by decide) ?_
      show Steps p.tables e below (s₁.setTop (mkF m 42 #[.val (.int xa), .val (.int xc), .val (.int xo), .val (.int xf), .val (.int (1 : Int32)), .val (.int v27), .unset, .unset, .unset, .unset, .unset] [])) _
      refine st21 _ ?_
      show Steps p.tables e below (T21.setTop (mkF m 45 #[.val (.int xa), .val (.int xc), .val (.int xo), .val (.int xf), .val (.int (1 : Int32)), .val (.int v27), .unset, .unset, .unset, .unset, .unset] [(.ref b21)])) _
      refine XS.dup X21.here hx rfl (hb hby at_45) rfl rfl ?_
      show Steps p.tables e below (T21.setTop (mkF m 46 #[.val (.int xa), .val (.int xc), .val (.int xo), .val (.int xf), .val (.int (1 : Int32)), .val (.int v27), .unset, .unset, .unset, .unset, .unset] [(.ref b21), (.ref b21)])) _
      refine XS.iload X21.here hx rfl (hb hby at_46) rfl ?_
      show Steps p.tables e below (T21.setTop (mkF m 48 #[.val (.int xa), .val (.int xc), .val (.int xo), .val (.int xf), .val (.int (1 : Int32)), .val (.int v27), .unset, .unset, .unset, .unset, .unset] [(.int v27), (.ref b21), (.ref b21)])) _
      refine XS.iload X21.here hx rfl (hb hby at_48) rfl ?_
      show Steps p.tables e below (T21.setTop (mkF m 50 #[.val (.int xa), .val (.int xc), .val (.int xo), .val (.int xf), .val (.int (1 : Int32)), .val (.int v27), .unset, .unset, .unset, .unset, .unset] [(.int (1 : Int32)), (.int v27), (.ref b21), (.ref b21)])) _
      refine st24.trans ?_
      show Steps p.tables e below (T24.setTop (mkF m 53 #[.val (.int xa), .val (.int xc), .val (.int xo), .val (.int xf), .val (.int (1 : Int32)), .val (.int v27), .unset, .unset, .unset, .unset, .unset] [(.ref b21)])) _
      refine XS.astore X24.here hx rfl (hb hby at_53) rfl rfl (l' := #[.val (.int xa), .val (.int xc), .val (.int xo), .val (.int xf), .val (.int (1 : Int32)), .val (.int v27), .val (.ref b21), .unset, .unset, .unset, .unset]) rfl ?_
      show Steps p.tables e below (T24.setTop (mkF m 55 #[.val (.int xa), .val (.int xc), .val (.int xo), .val (.int xf), .val (.int (1 : Int32)), .val (.int v27), .val (.ref b21), .unset, .unset, .unset, .unset] [])) _
      refine XS.aload X24.here hx rfl (hb hby at_55) rfl rfl ?_
      show Steps p.tables e below (T24.setTop (mkF m 57 #[.val (.int xa), .val (.int xc), .val (.int xo), .val (.int xf), .val (.int (1 : Int32)), .val (.int v27), .val (.ref b21), .unset, .unset, .unset, .unset] [(.ref b21)])) _
      refine XS.iloadN X24.here hx rfl (hb hby at_57) rfl ?_
      show Steps p.tables e below (T24.setTop (mkF m 58 #[.val (.int xa), .val (.int xc), .val (.int xo), .val (.int xf), .val (.int (1 : Int32)), .val (.int v27), .val (.ref b21), .unset, .unset, .unset, .unset] [(.int xc), (.ref b21)])) _
      refine XS.iloadN X24.here hx rfl (hb hby at_58) rfl ?_
      show Steps p.tables e below (T24.setTop (mkF m 59 #[.val (.int xa), .val (.int xc), .val (.int xo), .val (.int xf), .val (.int (1 : Int32)), .val (.int v27), .val (.ref b21), .unset, .unset, .unset, .unset] [(.int xo), (.int xc), (.ref b21)])) _
      refine st29.trans ?_
      exact k
    have pre31 : ∀ t, Steps p.tables e below (T29.setTop (mkF m 65 #[.val (.int xa), .val (.int xc), .val (.int xo), .val (.int xf), .val (.int (1 : Int32)), .val (.int v27), .val (.ref b21), .val (.int got), .unset, .unset, .unset] [(.int xc)])) t → Steps p.tables e below (s₁.setTop (entryFrame m #[(.int xa), (.int xc), (.int xo), (.int xf)] maxLocals)) t := by
      intro t k
      refine pre30 _ ?_
      show Steps p.tables e below (T29.setTop (mkF m 62 #[.val (.int xa), .val (.int xc), .val (.int xo), .val (.int xf), .val (.int (1 : Int32)), .val (.int v27), .val (.ref b21), .unset, .unset, .unset, .unset] [(.int got)])) _
      refine XS.istore X29.here hx rfl (hb hby at_62) rfl (l' := #[.val (.int xa), .val (.int xc), .val (.int xo), .val (.int xf), .val (.int (1 : Int32)), .val (.int v27), .val (.ref b21), .val (.int got), .unset, .unset, .unset]) rfl ?_
      show Steps p.tables e below (T29.setTop (mkF m 64 #[.val (.int xa), .val (.int xc), .val (.int xo), .val (.int xf), .val (.int (1 : Int32)), .val (.int v27), .val (.ref b21), .val (.int got), .unset, .unset, .unset] [])) _
      refine XS.iloadN X29.here hx rfl (hb hby at_64) rfl ?_
      exact k
    by_cases hc65 : xc = (0 : Int32)
    · have hd32 : got = (0 : Int32) := (by rw [hgot]; simp [own_met, hc65])
      obtain ⟨fs, hr, hrun, hended, hW, hsame⟩ := X29.leave (v := some (.int (1 : Int32))) (fun h => by rw [Bd.returns] at h; cases h)
      refine ⟨_, _, pre31 _ ?_, hrun, hended, _, _, rfl, ?_, ⟨_, rfl⟩, hW, hsame.mono (by decide) (by decide)⟩
      · show Steps p.tables e below (T29.setTop (mkF m 65 #[.val (.int xa), .val (.int xc), .val (.int xo), .val (.int xf), .val (.int (1 : Int32)), .val (.int v27), .val (.ref b21), .val (.int got), .unset, .unset, .unset] [(.int xc)])) _
        refine XS.ifNo X29.here hx rfl (hb hby at_65) rfl ((if0 _ _).trans (teq hc65).2) ?_
        show Steps p.tables e below (T29.setTop (mkF m 68 #[.val (.int xa), .val (.int xc), .val (.int xo), .val (.int xf), .val (.int (1 : Int32)), .val (.int v27), .val (.ref b21), .val (.int got), .unset, .unset, .unset] [])) _
        refine XS.iconst X29.here hx rfl (hb hby at_68) ?_
        show Steps p.tables e below (T29.setTop (mkF m 69 #[.val (.int xa), .val (.int xc), .val (.int xo), .val (.int xf), .val (.int (1 : Int32)), .val (.int v27), .val (.ref b21), .val (.int got), .unset, .unset, .unset] [(.int (0 : Int32))])) _
        refine XS.istore X29.here hx rfl (hb hby at_69) rfl (l' := #[.val (.int xa), .val (.int xc), .val (.int xo), .val (.int xf), .val (.int (1 : Int32)), .val (.int v27), .val (.ref b21), .val (.int got), .val (.int (0 : Int32)), .unset, .unset]) rfl ?_
        show Steps p.tables e below (T29.setTop (mkF m 71 #[.val (.int xa), .val (.int xc), .val (.int xo), .val (.int xf), .val (.int (1 : Int32)), .val (.int v27), .val (.ref b21), .val (.int got), .val (.int (0 : Int32)), .unset, .unset] [])) _
        refine XS.goto X29.here hx rfl (pc0 := 71) (pc' := 121) rfl (hb hby at_71) (by decide) (by decide) ?_
        show Steps p.tables e below (T29.setTop (mkF m 121 #[.val (.int xa), .val (.int xc), .val (.int xo), .val (.int xf), .val (.int (1 : Int32)), .val (.int v27), .val (.ref b21), .val (.int got), .val (.int (0 : Int32)), .unset, .unset] [])) _
        refine XS.iload X29.here hx rfl (hb hby at_121) rfl ?_
        show Steps p.tables e below (T29.setTop (mkF m 123 #[.val (.int xa), .val (.int xc), .val (.int xo), .val (.int xf), .val (.int (1 : Int32)), .val (.int v27), .val (.ref b21), .val (.int got), .val (.int (0 : Int32)), .unset, .unset] [(.int got)])) _
        refine XS.iload X29.here hx rfl (hb hby at_123) rfl ?_
        show Steps p.tables e below (T29.setTop (mkF m 125 #[.val (.int xa), .val (.int xc), .val (.int xo), .val (.int xf), .val (.int (1 : Int32)), .val (.int v27), .val (.ref b21), .val (.int got), .val (.int (0 : Int32)), .unset, .unset] [(.int (0 : Int32)), (.int got)])) _
        refine XS.icmpNo X29.here hx rfl (hb hby at_125) rfl (teq hd32).2 ?_
        show Steps p.tables e below (T29.setTop (mkF m 128 #[.val (.int xa), .val (.int xc), .val (.int xo), .val (.int xf), .val (.int (1 : Int32)), .val (.int v27), .val (.ref b21), .val (.int got), .val (.int (0 : Int32)), .unset, .unset] [])) _
        refine XS.iconst X29.here hx rfl (hb hby at_128) ?_
        show Steps p.tables e below (T29.setTop (mkF m 129 #[.val (.int xa), .val (.int xc), .val (.int xo), .val (.int xf), .val (.int (1 : Int32)), .val (.int v27), .val (.ref b21), .val (.int got), .val (.int (0 : Int32)), .unset, .unset] [(.int (1 : Int32))])) _
        refine XS.goto X29.here hx rfl (pc0 := 129) (pc' := 133) rfl (hb hby at_129) (by decide) (by decide) ?_
        show Steps p.tables e below (T29.setTop (mkF m 133 #[.val (.int xa), .val (.int xc), .val (.int xo), .val (.int xf), .val (.int (1 : Int32)), .val (.int v27), .val (.ref b21), .val (.int got), .val (.int (0 : Int32)), .unset, .unset] [(.int (1 : Int32))])) _
        exact retN X29 hx (t := .boolean) Bd.returns (by simp) (hb hby at_133) hr
      · show own_Q0 Z xa xc xo xf h0 n0 _ T29.heap _
        rw [eh29]
        exact ⟨rfl, N29⟩
    · have hd33 : ¬ ((1 : Int32) = (0 : Int32)) := (by decide)
      obtain ⟨_, _, ⟨T34, L34, k34, n34⟩, -, X34, ⟨Lc34, hQ34, l34, y34, z34⟩, st34⟩ := Jvm.LawKit.callS X29 hx (y := (⟨"com/example/heronbeck/heronbeck/model/AtLeastMetByPinLaw", "ceilHundredth", "(J)J"⟩ : MethodName)) hown (mvT hZ (hw _ (List.mem_of_getElem? (i := 25) rfl))) (mvT hZ (hw _ (List.mem_of_getElem? (i := 26) rfl))) (mvT hZ (hw _ (List.mem_of_getElem? (i := 27) rfl))) (mvT hZ (hw _ (List.mem_of_getElem? (i := 28) rfl))) (by decide) (backOf (W := 0) (own_rm5 l Z a0 hw [] ((v27.toInt64) * (xo.toInt64)) T24.heap n0 Z24 ) hZ (hw _ (List.mem_of_getElem? (i := 28) rfl)) (hw _ (List.mem_of_getElem? (i := 27) rfl)) (by decide) (by decide)) (g := (mkF m 101 #[.val (.int xa), .val (.int xc), .val (.int xo), .val (.int xf), .val (.int (1 : Int32)), .val (.int v27), .val (.ref b21), .val (.int got), .unset, .unset, .unset] [(.long ((v27.toInt64) * (xo.toInt64)))])) rfl (by rw [hml]; rfl) (argsL := [(.long ((v27.toInt64) * (xo.toInt64)))]) (rest := []) (lenOf own_pd4 rfl) rfl (by show 2 * 0 + _ ≤ _; exact Nat.le_of_eq rfl) (hb hby at_101) (fun _ _ => ⟨rfl, eh29, (by decide : 1 + 0 ≤ _), (by decide : 2 + 0 ≤ _)⟩)
      dsimp only [Pt.U, Pt.locs, Pt.cells, Pt.slots] at X34 l34 y34 z34 st34 hQ34
      subst l34 y34 z34
      obtain ⟨rfl, N34q, eh34⟩ := hQ34
      have N34 := Fr.app N29 N34q
      obtain ⟨v104, hv104⟩ : ∃ w : Int64, w = (own_ceil ((v27.toInt64) * (xo.toInt64))) := ⟨_, rfl⟩
      have pre35 : ∀ t, Steps p.tables e below (T34.setTop (mkF m 106 #[.val (.int xa), .val (.int xc), .val (.int xo), .val (.int xf), .val (.int (1 : Int32)), .val (.int v27), .val (.ref b21), .val (.int got), .unset, .val (.long v104), .second] [])) t → Steps p.tables e below (s₁.setTop (entryFrame m #[(.int xa), (.int xc), (.int xo), (.int xf)] maxLocals)) t := by
        intro t k
        rw [hv104] at k
        refine pre31 _ ?_
        show Steps p.tables e below (T29.setTop (mkF m 65 #[.val (.int xa), .val (.int xc), .val (.int xo), .val (.int xf), .val (.int (1 : Int32)), .val (.int v27), .val (.ref b21), .val (.int got), .unset, .unset, .unset] [(.int xc)])) _
        refine XS.ifYes X29.here hx rfl (pc0 := 65) (pc' := 74) rfl (hb hby at_65) rfl ((if0 _ _).trans (feq hc65).2) (by decide) (by decide) ?_
        show Steps p.tables e below (T29.setTop (mkF m 74 #[.val (.int xa), .val (.int xc), .val (.int xo), .val (.int xf), .val (.int (1 : Int32)), .val (.int v27), .val (.ref b21), .val (.int got), .unset, .unset, .unset] [])) _
        refine XS.iload X29.here hx rfl (hb hby at_74) rfl ?_
        show Steps p.tables e below (T29.setTop (mkF m 76 #[.val (.int xa), .val (.int xc), .val (.int xo), .val (.int xf), .val (.int (1 : Int32)), .val (.int v27), .val (.ref b21), .val (.int got), .unset, .unset, .unset] [(.int (1 : Int32))])) _
        refine XS.ifYes X29.here hx rfl (pc0 := 76) (pc' := 95) rfl (hb hby at_76) rfl ((if0 _ _).trans (feq hd33).2) (by decide) (by decide) ?_
        show Steps p.tables e below (T29.setTop (mkF m 95 #[.val (.int xa), .val (.int xc), .val (.int xo), .val (.int xf), .val (.int (1 : Int32)), .val (.int v27), .val (.ref b21), .val (.int got), .unset, .unset, .unset] [])) _
        refine XS.iload X29.here hx rfl (hb hby at_95) rfl ?_
        show Steps p.tables e below (T29.setTop (mkF m 97 #[.val (.int xa), .val (.int xc), .val (.int xo), .val (.int xf), .val (.int (1 : Int32)), .val (.int v27), .val (.ref b21), .val (.int got), .unset, .unset, .unset] [(.int v27)])) _
        refine XS.i2l X29.here hx rfl (hb hby at_97) rfl ?_
        show Steps p.tables e below (T29.setTop (mkF m 98 #[.val (.int xa), .val (.int xc), .val (.int xo), .val (.int xf), .val (.int (1 : Int32)), .val (.int v27), .val (.ref b21), .val (.int got), .unset, .unset, .unset] [(.long (v27.toInt64))])) _
        refine XS.iloadN X29.here hx rfl (hb hby at_98) rfl ?_
        show Steps p.tables e below (T29.setTop (mkF m 99 #[.val (.int xa), .val (.int xc), .val (.int xo), .val (.int xf), .val (.int (1 : Int32)), .val (.int v27), .val (.ref b21), .val (.int got), .unset, .unset, .unset] [(.int xo), (.long (v27.toInt64))])) _
        refine XS.i2l X29.here hx rfl (hb hby at_99) rfl ?_
        show Steps p.tables e below (T29.setTop (mkF m 100 #[.val (.int xa), .val (.int xc), .val (.int xo), .val (.int xf), .val (.int (1 : Int32)), .val (.int v27), .val (.ref b21), .val (.int got), .unset, .unset, .unset] [(.long (xo.toInt64)), (.long (v27.toInt64))])) _
        refine XS.lmul X29.here hx rfl (hb hby at_100) rfl ?_
        show Steps p.tables e below (T29.setTop (mkF m 101 #[.val (.int xa), .val (.int xc), .val (.int xo), .val (.int xf), .val (.int (1 : Int32)), .val (.int v27), .val (.ref b21), .val (.int got), .unset, .unset, .unset] [(.long ((v27.toInt64) * (xo.toInt64)))])) _
        refine st34 _ ?_
        show Steps p.tables e below (T34.setTop (mkF m 104 #[.val (.int xa), .val (.int xc), .val (.int xo), .val (.int xf), .val (.int (1 : Int32)), .val (.int v27), .val (.ref b21), .val (.int got), .unset, .unset, .unset] [(.long (own_ceil ((v27.toInt64) * (xo.toInt64))))])) _
        refine XS.lstore X34.here hx rfl (hb hby at_104) rfl (l' := #[.val (.int xa), .val (.int xc), .val (.int xo), .val (.int xf), .val (.int (1 : Int32)), .val (.int v27), .val (.ref b21), .val (.int got), .unset, .val (.long (own_ceil ((v27.toInt64) * (xo.toInt64)))), .second]) rfl ?_
        exact k
      have pre36 : ∀ t, Steps p.tables e below (T34.setTop (mkF m 111 #[.val (.int xa), .val (.int xc), .val (.int xo), .val (.int xf), .val (.int (1 : Int32)), .val (.int v27), .val (.ref b21), .val (.int got), .unset, .val (.long v104), .second] [(.int (lcmpW (xc.toInt64) v104))])) t → Steps p.tables e below (s₁.setTop (entryFrame m #[(.int xa), (.int xc), (.int xo), (.int xf)] maxLocals)) t := by
        intro t k
        refine pre35 _ ?_
        show Steps p.tables e below (T34.setTop (mkF m 106 #[.val (.int xa), .val (.int xc), .val (.int xo), .val (.int xf), .val (.int (1 : Int32)), .val (.int v27), .val (.ref b21), .val (.int got), .unset, .val (.long v104), .second] [])) _
        refine XS.iloadN X34.here hx rfl (hb hby at_106) rfl ?_
        show Steps p.tables e below (T34.setTop (mkF m 107 #[.val (.int xa), .val (.int xc), .val (.int xo), .val (.int xf), .val (.int (1 : Int32)), .val (.int v27), .val (.ref b21), .val (.int got), .unset, .val (.long v104), .second] [(.int xc)])) _
        refine XS.i2l X34.here hx rfl (hb hby at_107) rfl ?_
        show Steps p.tables e below (T34.setTop (mkF m 108 #[.val (.int xa), .val (.int xc), .val (.int xo), .val (.int xf), .val (.int (1 : Int32)), .val (.int v27), .val (.ref b21), .val (.int got), .unset, .val (.long v104), .second] [(.long (xc.toInt64))])) _
        refine XS.lload X34.here hx rfl (hb hby at_108) rfl ?_
        show Steps p.tables e below (T34.setTop (mkF m 110 #[.val (.int xa), .val (.int xc), .val (.int xo), .val (.int xf), .val (.int (1 : Int32)), .val (.int v27), .val (.ref b21), .val (.int got), .unset, .val (.long v104), .second] [(.long v104), (.long (xc.toInt64))])) _
        refine XS.lcmp X34.here hx rfl (hb hby at_110) rfl ?_
        exact k
      by_cases hc111 : (xc.toInt64) < v104
      · have hd37 : got = (0 : Int32) := (by rw [hv104] at hc111; have q := (own_iff (c := xc) (o := xo) (a := v27) (by rw [hv27]; exact (own_am1 _).1) (by rw [hv27]; exact (own_am1 _).2)).mp hc111; rw [hgot]; simp [own_met, hc65, q])
        obtain ⟨fs, hr, hrun, hended, hW, hsame⟩ := X34.leave (v := some (.int (1 : Int32))) (fun h => by rw [Bd.returns] at h; cases h)
        refine ⟨_, _, pre36 _ ?_, hrun, hended, _, _, rfl, ?_, ⟨_, rfl⟩, hW, hsame.mono (by decide) (by decide)⟩
        · show Steps p.tables e below (T34.setTop (mkF m 111 #[.val (.int xa), .val (.int xc), .val (.int xo), .val (.int xf), .val (.int (1 : Int32)), .val (.int v27), .val (.ref b21), .val (.int got), .unset, .val (.long v104), .second] [(.int (lcmpW (xc.toInt64) v104))])) _
          refine XS.ifYes X34.here hx rfl (pc0 := 111) (pc' := 118) rfl (hb hby at_111) rfl ((if0 _ _).trans (tlt ((lw_lt (xc.toInt64) v104).mpr hc111)).1) (by decide) (by decide) ?_
          show Steps p.tables e below (T34.setTop (mkF m 118 #[.val (.int xa), .val (.int xc), .val (.int xo), .val (.int xf), .val (.int (1 : Int32)), .val (.int v27), .val (.ref b21), .val (.int got), .unset, .val (.long v104), .second] [])) _
          refine XS.iconst X34.here hx rfl (hb hby at_118) ?_
          show Steps p.tables e below (T34.setTop (mkF m 119 #[.val (.int xa), .val (.int xc), .val (.int xo), .val (.int xf), .val (.int (1 : Int32)), .val (.int v27), .val (.ref b21), .val (.int got), .unset, .val (.long v104), .second] [(.int (0 : Int32))])) _
          refine XS.istore X34.here hx rfl (hb hby at_119) rfl (l' := #[.val (.int xa), .val (.int xc), .val (.int xo), .val (.int xf), .val (.int (1 : Int32)), .val (.int v27), .val (.ref b21), .val (.int got), .val (.int (0 : Int32)), .val (.long v104), .second]) rfl ?_
          show Steps p.tables e below (T34.setTop (mkF m 121 #[.val (.int xa), .val (.int xc), .val (.int xo), .val (.int xf), .val (.int (1 : Int32)), .val (.int v27), .val (.ref b21), .val (.int got), .val (.int (0 : Int32)), .val (.long v104), .second] [])) _
          refine XS.iload X34.here hx rfl (hb hby at_121) rfl ?_
          show Steps p.tables e below (T34.setTop (mkF m 123 #[.val (.int xa), .val (.int xc), .val (.int xo), .val (.int xf), .val (.int (1 : Int32)), .val (.int v27), .val (.ref b21), .val (.int got), .val (.int (0 : Int32)), .val (.long v104), .second] [(.int got)])) _
          refine XS.iload X34.here hx rfl (hb hby at_123) rfl ?_
          show Steps p.tables e below (T34.setTop (mkF m 125 #[.val (.int xa), .val (.int xc), .val (.int xo), .val (.int xf), .val (.int (1 : Int32)), .val (.int v27), .val (.ref b21), .val (.int got), .val (.int (0 : Int32)), .val (.long v104), .second] [(.int (0 : Int32)), (.int got)])) _
          refine XS.icmpNo X34.here hx rfl (hb hby at_125) rfl (teq hd37).2 ?_
          show Steps p.tables e below (T34.setTop (mkF m 128 #[.val (.int xa), .val (.int xc), .val (.int xo), .val (.int xf), .val (.int (1 : Int32)), .val (.int v27), .val (.ref b21), .val (.int got), .val (.int (0 : Int32)), .val (.long v104), .second] [])) _
          refine XS.iconst X34.here hx rfl (hb hby at_128) ?_
          show Steps p.tables e below (T34.setTop (mkF m 129 #[.val (.int xa), .val (.int xc), .val (.int xo), .val (.int xf), .val (.int (1 : Int32)), .val (.int v27), .val (.ref b21), .val (.int got), .val (.int (0 : Int32)), .val (.long v104), .second] [(.int (1 : Int32))])) _
          refine XS.goto X34.here hx rfl (pc0 := 129) (pc' := 133) rfl (hb hby at_129) (by decide) (by decide) ?_
          show Steps p.tables e below (T34.setTop (mkF m 133 #[.val (.int xa), .val (.int xc), .val (.int xo), .val (.int xf), .val (.int (1 : Int32)), .val (.int v27), .val (.ref b21), .val (.int got), .val (.int (0 : Int32)), .val (.long v104), .second] [(.int (1 : Int32))])) _
          exact retN X34 hx (t := .boolean) Bd.returns (by simp) (hb hby at_133) hr
        · show own_Q0 Z xa xc xo xf h0 n0 _ T34.heap _
          rw [eh34]
          exact ⟨rfl, N34⟩
      · have hd38 : got = (1 : Int32) := (by rw [hv104] at hc111; have q := mt (own_iff (c := xc) (o := xo) (a := v27) (by rw [hv27]; exact (own_am1 _).1) (by rw [hv27]; exact (own_am1 _).2)).mpr hc111; rw [hgot]; simp [own_met, hc65, q])
        obtain ⟨fs, hr, hrun, hended, hW, hsame⟩ := X34.leave (v := some (.int (1 : Int32))) (fun h => by rw [Bd.returns] at h; cases h)
        refine ⟨_, _, pre36 _ ?_, hrun, hended, _, _, rfl, ?_, ⟨_, rfl⟩, hW, hsame.mono (by decide) (by decide)⟩
        · show Steps p.tables e below (T34.setTop (mkF m 111 #[.val (.int xa), .val (.int xc), .val (.int xo), .val (.int xf), .val (.int (1 : Int32)), .val (.int v27), .val (.ref b21), .val (.int got), .unset, .val (.long v104), .second] [(.int (lcmpW (xc.toInt64) v104))])) _
          refine XS.ifNo X34.here hx rfl (hb hby at_111) rfl ((if0 _ _).trans (flt (fun z => hc111 ((lw_lt (xc.toInt64) v104).mp z))).1) ?_
          show Steps p.tables e below (T34.setTop (mkF m 114 #[.val (.int xa), .val (.int xc), .val (.int xo), .val (.int xf), .val (.int (1 : Int32)), .val (.int v27), .val (.ref b21), .val (.int got), .unset, .val (.long v104), .second] [])) _
          refine XS.iconst X34.here hx rfl (hb hby at_114) ?_
          show Steps p.tables e below (T34.setTop (mkF m 115 #[.val (.int xa), .val (.int xc), .val (.int xo), .val (.int xf), .val (.int (1 : Int32)), .val (.int v27), .val (.ref b21), .val (.int got), .unset, .val (.long v104), .second] [(.int (1 : Int32))])) _
          refine XS.goto X34.here hx rfl (pc0 := 115) (pc' := 119) rfl (hb hby at_115) (by decide) (by decide) ?_
          show Steps p.tables e below (T34.setTop (mkF m 119 #[.val (.int xa), .val (.int xc), .val (.int xo), .val (.int xf), .val (.int (1 : Int32)), .val (.int v27), .val (.ref b21), .val (.int got), .unset, .val (.long v104), .second] [(.int (1 : Int32))])) _
          refine XS.istore X34.here hx rfl (hb hby at_119) rfl (l' := #[.val (.int xa), .val (.int xc), .val (.int xo), .val (.int xf), .val (.int (1 : Int32)), .val (.int v27), .val (.ref b21), .val (.int got), .val (.int (1 : Int32)), .val (.long v104), .second]) rfl ?_
          show Steps p.tables e below (T34.setTop (mkF m 121 #[.val (.int xa), .val (.int xc), .val (.int xo), .val (.int xf), .val (.int (1 : Int32)), .val (.int v27), .val (.ref b21), .val (.int got), .val (.int (1 : Int32)), .val (.long v104), .second] [])) _
          refine XS.iload X34.here hx rfl (hb hby at_121) rfl ?_
          show Steps p.tables e below (T34.setTop (mkF m 123 #[.val (.int xa), .val (.int xc), .val (.int xo), .val (.int xf), .val (.int (1 : Int32)), .val (.int v27), .val (.ref b21), .val (.int got), .val (.int (1 : Int32)), .val (.long v104), .second] [(.int got)])) _
          refine XS.iload X34.here hx rfl (hb hby at_123) rfl ?_
          show Steps p.tables e below (T34.setTop (mkF m 125 #[.val (.int xa), .val (.int xc), .val (.int xo), .val (.int xf), .val (.int (1 : Int32)), .val (.int v27), .val (.ref b21), .val (.int got), .val (.int (1 : Int32)), .val (.long v104), .second] [(.int (1 : Int32)), (.int got)])) _
          refine XS.icmpNo X34.here hx rfl (hb hby at_125) rfl (teq hd38).2 ?_
          show Steps p.tables e below (T34.setTop (mkF m 128 #[.val (.int xa), .val (.int xc), .val (.int xo), .val (.int xf), .val (.int (1 : Int32)), .val (.int v27), .val (.ref b21), .val (.int got), .val (.int (1 : Int32)), .val (.long v104), .second] [])) _
          refine XS.iconst X34.here hx rfl (hb hby at_128) ?_
          show Steps p.tables e below (T34.setTop (mkF m 129 #[.val (.int xa), .val (.int xc), .val (.int xo), .val (.int xf), .val (.int (1 : Int32)), .val (.int v27), .val (.ref b21), .val (.int got), .val (.int (1 : Int32)), .val (.long v104), .second] [(.int (1 : Int32))])) _
          refine XS.goto X34.here hx rfl (pc0 := 129) (pc' := 133) rfl (hb hby at_129) (by decide) (by decide) ?_
          show Steps p.tables e below (T34.setTop (mkF m 133 #[.val (.int xa), .val (.int xc), .val (.int xo), .val (.int xf), .val (.int (1 : Int32)), .val (.int v27), .val (.ref b21), .val (.int got), .val (.int (1 : Int32)), .val (.long v104), .second] [(.int (1 : Int32))])) _
          exact retN X34 hx (t := .boolean) Bd.returns (by simp) (hb hby at_133) hr
        · show own_Q0 Z xa xc xo xf h0 n0 _ T34.heap _
          rw [eh34]
          exact ⟨rfl, N34⟩
set_option maxRecDepth 65536 in
set_option maxHeartbeats 40000000 in
theorem own_comes_1 {Post : Tables → Env → Array Value → State → Outcome → State → Prop} (hpost : ∀ tb e args s v u, (limb_1_1.after args s (.returned v) u = true ∧ limb_1_2.after args s (.returned v) u = true ∧ True) → FrameEnd s (.returned v) u (Jvm.fieldLocs frame_1_writes args s ++ Jvm.arrayLocs frame_1_arrays args s ++ Jvm.staticLocs frame_1_statics s) 16 128 → Post tb e args s (.returned v) u) :
    ArmFor flags0 classFile x code maxLocals ret World_1 tables_1 room_1 Calls_1 rest_1 Pre_1 Post := by
  intro l hfl _ _ p e ha hc hk s m args below hf hA hF happ hP
  obtain ⟨hcalls, hrest, hpre⟩ := hP
  obtain ⟨-, -, -, hnamed, -, -, -, hat⟩ := (Spec.applies_iff hf).mp happ
  obtain ⟨hg, hn⟩ := and_e (Cond.before_iff.mp (show (Jvm.Cond.and given_1 narrow_1).before args s = true from hpre))
  obtain ⟨gg1, gg2⟩ := and_e hg
  obtain ⟨gg3, gg4⟩ := and_e gg2
  obtain ⟨gg5, gg6⟩ := and_e gg4
  obtain ⟨gg7, gg8⟩ := and_e gg6
  obtain ⟨w0, w1, w2, w3, rfl⟩ : ∃ w0 w1 w2 w3 : Value, args = #[w0, w1, w2, w3] := by
    have hs : args.size = 4 := by simpa [Cond.value, given_1] using gg1
    obtain ⟨L⟩ := args
    match L, hs with
    | [w0, w1, w2, w3], _ => exact ⟨w0, w1, w2, w3, rfl⟩
  have hw := fun d (hd : d ∈ tables_1) => atoms_spec (ws := Jvm.Cond.code x code maxLocals ret :: tables_1) hat d (List.mem_cons_of_mem _ hd)
  have hfit : Fit s := fun {y c} hc i hi => by
    obtain ⟨ha, rfl⟩ := Array.getElem?_eq_some_iff.mp hc
    have q := List.all_eq_true.mp ((Array.all_eq_true_iff_forall_mem.mp hF) _ (Array.getElem_mem ha)) i (List.mem_range.mpr hi)
    simpa [Array.getElem?_eq_getElem hi] using q
  obtain ⟨i0, ei0⟩ := is_v gg3
  obtain rfl : w0 = (.int i0) := Option.some.inj ei0
  obtain ⟨i1, ei1⟩ := is_v gg5
  obtain rfl : w1 = (.int i1) := Option.some.inj ei1
  obtain ⟨i2, ei2⟩ := is_v gg7
  obtain rfl : w2 = (.int i2) := Option.some.inj ei2
  obtain ⟨i3, ei3⟩ := is_v gg8
  obtain rfl : w3 = (.int i3) := Option.some.inj ei3
  obtain ⟨n, o, h1, h2, h3, _, L, rfl, ⟨rfl, N⟩, hq⟩ := own_rm0 l s _ hw tables_1 i0 i1 i2 i3  s.heap s.heap.size (Nat.le_refl _)  p e ha hc hk s m _ below hf ((Spec.applies_iff_loose hf).mp happ).1 ⟨rfl, State.Warmed39.refl s, rfl⟩ trivial
  refine ⟨n, _, h1, h2, h3, hpost _ _ _ _ _ _ ⟨Cond.after_iff.mpr rfl, Cond.after_iff.mpr (eq_i res_at (Term.int_eval (1)) rfl), trivial⟩ ⟨hq.1, hq.2.1, (hq.2.2.sift fun y hy => Or.inr (N y hy)).mono (by decide) (by decide)⟩⟩
theorem main_1_1 : Claimed_1_1 := own_comes_1 fun _ _ _ _ _ _ h hF => ⟨h.1, hF⟩
theorem main_1_2 : Claimed_1_2 := own_comes_1 fun _ _ _ _ _ _ h hF => ⟨h.2.1, hF⟩
end Jvm.Pilot.@@N@@
namespace Jvm.Pilot.@@N@@
open Jvm Jvm.ClassFile Sem Op Lib Jvm.Free Jvm.Stand Jvm.Pilot.@@N@@.Jvm.D
/-! MADE BY PROGRAM (witnessworld.py) out of the Statement's table words and the real class files: 11 classes; the members and pool entries that the words name. The judged class is class 1, her method 2. -/
namespace start1
open Jvm.ClassFile
def u (s : String) : CpInfo := .utf8 (stringToUtf16 s)
/-- a pool by its gaps: so many unusable entries, then the entry; so many at the end -/
def gap : Nat → List CpInfo → List CpInfo
  | 0, r => r
  | n + 1, r => .unusable :: gap n r
def poolList (es : List (Nat × CpInfo)) (last : Nat) : List CpInfo := es.foldr (fun e r => gap e.1 (e.2 :: r)) (gap last [])
def pool (es : List (Nat × CpInfo)) (last : Nat) : Array CpInfo := ⟨poolList es last⟩
def fileOf (pool : Array CpInfo) (this : Nat) (attrs : Array Attribute := #[]) (ms : Array MethodInfo := #[]) (fl : Nat := 33) (sup : Nat := 0) (ifs : Array Nat := #[]) (fds : Array FieldInfo := #[]) : ClassFile where
  minorVersion := 0
  majorVersion := 65
  constantPool := pool
  accessFlags := fl
  thisClass := this
  superClass := sup
  interfaces := ifs
  fields := fds
  methods := ms
  attributes := attrs
def plain (name : String) (sup : Option ClassId) : Class where
  name := name
  kind := .ordinary
  loader := none
  accessFlags := 33
  super := sup
  interfaces := #[]
  cf := none
  fields := #[]
  methods := #[]
  instanceTypes := #[]
  staticTypes := #[]
  resolved := #[]
  callSites := []
  init := .initialized
  statics := none
  mirror := none

def pool0 : Array CpInfo := pool [(5, u "<init>"), (0, u "()V"), (1, .class_ 10), (1, u "java/lang/Object")] 113

def k0c0 : Code := { maxStack := 0, maxLocals := 1, code := object_method_1_code, exceptionTable := #[], attributes := #[] }
def k0m0 : Method := { name := "<init>", desc := "()V", sig := { parameters := [], returnType := none }, accessFlags := 1, code := some k0c0 }
/-- java/lang/Object -/
def k0 : Class := { plain "java/lang/Object" none with
  accessFlags := 33
  interfaces := #[]
  cf := some (fileOf pool0 8 #[] #[{ accessFlags := 1, nameIndex := 5, descriptorIndex := 6, attributes := #[] }] 33 0 #[] #[])
  fields := #[]
  methods := #[k0m0]
  instanceTypes := #[]
  staticTypes := #[]
  resolved := Array.replicate 124 none
  statics := none }

def pool1 : Array CpInfo := pool [(2, .class_ 4), (1, u "java/lang/Object"), (0, u "<init>"), (0, u "()V"), (0, .long 99), (1, .long 100), (1, .integer 2147483647), (0, .methodref 13 14), (0, .class_ 15), (0, .nameAndType 16 17), (0, u "java/lang/Math"), (0, u "max"), (0, u "(II)I"), (0, .class_ 19), (0, u "com/example/heronbeck/heronbeck/model/AtLeast"), (0, .methodref 18 21), (0, .nameAndType 5 22), (0, u "(IZ)V"), (0, .methodref 18 24), (0, .nameAndType 25 26), (0, u "metBy"), (0, u "(II)Z"), (0, .methodref 28 29), (0, .class_ 30), (0, .nameAndType 31 32), (0, u "com/example/heronbeck/heronbeck/model/AtLeastMetByPinLaw"), (0, u "ceilHundredth"), (0, u "(J)J"), (3, u "law"), (0, u "(IIII)Z")] 2

def k1m0 : Method := { name := "<init>", desc := "()V", sig := { parameters := [], returnType := none }, accessFlags := 2, code := none }
def k1c1 : Code := { maxStack := 4, maxLocals := 2, code := method_2_code, exceptionTable := #[], attributes := #[] }
def k1m1 : Method := { name := "ceilHundredth", desc := "(J)J", sig := { parameters := [.long], returnType := some .long }, accessFlags := 10, code := some k1c1 }
def k1c2 : Code := { maxStack := 4, maxLocals := 11, code := code, exceptionTable := #[], attributes := #[] }
def k1m2 : Method := { name := "law", desc := "(IIII)Z", sig := { parameters := [.int, .int, .int, .int], returnType := some .boolean }, accessFlags := 9, code := some k1c2 }
/-- com/example/heronbeck/heronbeck/model/AtLeastMetByPinLaw -/
def k1 : Class := { plain "com/example/heronbeck/heronbeck/model/AtLeastMetByPinLaw" (some 0) with
  accessFlags := 49
  interfaces := #[]
  cf := some (fileOf pool1 28 #[] #[{ accessFlags := 2, nameIndex := 5, descriptorIndex := 6, attributes := #[] }, { accessFlags := 10, nameIndex := 31, descriptorIndex := 32, attributes := #[] }, { accessFlags := 9, nameIndex := 36, descriptorIndex := 37, attributes := #[] }] 49 2 #[] #[])
  fields := #[]
  methods := #[k1m0, k1m1, k1m2]
  instanceTypes := #[]
  staticTypes := #[]
  resolved := Array.replicate 40 none
  statics := none }

def pool2 : Array CpInfo := pool [(1, .methodref 2 3), (0, .class_ 4), (0, .nameAndType 5 6), (0, u "java/lang/Object"), (0, u "<init>"), (0, u "()V"), (0, .class_ 8), (0, u "java/lang/Record")] 13

def k2c0 : Code := { maxStack := 1, maxLocals := 1, code := jdk_30_method_1_code, exceptionTable := #[], attributes := #[] }
def k2m0 : Method := { name := "<init>", desc := "()V", sig := { parameters := [], returnType := none }, accessFlags := 4, code := some k2c0 }
/-- java/lang/Record -/
def k2 : Class := { plain "java/lang/Record" (some 0) with
  accessFlags := 1057
  interfaces := #[]
  cf := some (fileOf pool2 7 #[] #[{ accessFlags := 4, nameIndex := 5, descriptorIndex := 6, attributes := #[] }] 1057 2 #[] #[])
  fields := #[]
  methods := #[k2m0]
  instanceTypes := #[]
  staticTypes := #[]
  resolved := Array.replicate 22 none
  statics := none }

def pool3 : Array CpInfo := pool [(1, .methodref 2 3), (0, .class_ 4), (0, .nameAndType 5 6), (0, u "java/lang/Record"), (0, u "<init>"), (0, u "()V"), (13, .fieldref 21 22), (0, .class_ 23), (0, .nameAndType 24 25), (0, u "com/example/heronbeck/heronbeck/model/AtLeast"), (0, u "amount"), (0, u "I"), (0, .fieldref 21 27), (0, .nameAndType 28 29), (0, u "percent"), (0, u "Z"), (0, .long 100), (13, u "(IZ)V"), (6, u "metBy"), (0, u "(II)Z")] 33

def k3c0 : Code := { maxStack := 4, maxLocals := 3, code := prog_27_method_1_code, exceptionTable := #[], attributes := #[] }
def k3m0 : Method := { name := "<init>", desc := "(IZ)V", sig := { parameters := [.int, .boolean], returnType := none }, accessFlags := 1, code := some k3c0 }
def k3c1 : Code := { maxStack := 6, maxLocals := 3, code := prog_27_method_2_code, exceptionTable := #[], attributes := #[] }
def k3m1 : Method := { name := "metBy", desc := "(II)Z", sig := { parameters := [.int, .int], returnType := some .boolean }, accessFlags := 1, code := some k3c1 }
/-- com/example/heronbeck/heronbeck/model/AtLeast -/
def k3 : Class := { plain "com/example/heronbeck/heronbeck/model/AtLeast" (some 2) with
  accessFlags := 49
  interfaces := #[]
  cf := some (fileOf pool3 21 #[] #[{ accessFlags := 1, nameIndex := 5, descriptorIndex := 44, attributes := #[] }, { accessFlags := 1, nameIndex := 51, descriptorIndex := 52, attributes := #[] }] 49 2 #[] #[{ accessFlags := 18, nameIndex := 24, descriptorIndex := 25, attributes := #[] }, { accessFlags := 18, nameIndex := 28, descriptorIndex := 29, attributes := #[] }])
  fields := #[{ name := "amount", type := .int, accessFlags := 18, slot := 0, constantValue := 0 }, { name := "percent", type := .boolean, accessFlags := 18, slot := 1, constantValue := 0 }]
  methods := #[k3m0, k3m1]
  instanceTypes := #[.int, .boolean]
  staticTypes := #[]
  resolved := Array.replicate 86 none
  statics := none }

def pool4 : Array CpInfo := pool [(1, .class_ 2), (0, u "java/lang/Math"), (1, .class_ 6), (1, u "java/lang/Object"), (0, u "<init>"), (0, u "()V"), (89, .class_ 100), (1, u "java/lang/Math$RandomNumberGeneratorHolder"), (71, u "negativeZeroFloatBits"), (0, u "J"), (2, u "negativeZeroDoubleBits"), (21, u "max"), (46, u "$assertionsDisabled"), (0, u "Z"), (88, u "(II)I"), (2, u "twoToTheDoubleScaleDown"), (0, u "D"), (4, u "twoToTheDoubleScaleUp"), (9, u "E"), (3, u "PI"), (2, u "TAU"), (2, u "DEGREES_TO_RADIANS"), (0, u "RADIANS_TO_DEGREES")] 94

def k4m0 : Method := { name := "<init>", desc := "()V", sig := { parameters := [], returnType := none }, accessFlags := 2, code := none }
def k4c1 : Code := { maxStack := 2, maxLocals := 2, code := jdk_29_method_65_code, exceptionTable := #[], attributes := #[] }
def k4m1 : Method := { name := "max", desc := "(II)I", sig := { parameters := [.int, .int], returnType := some .int }, accessFlags := 9, code := some k4c1 }
/-- java/lang/Math -/
def k4 : Class := { plain "java/lang/Math" (some 0) with
  accessFlags := 49
  interfaces := #[]
  cf := some (fileOf pool4 1 #[.nestMembers #[98]] #[{ accessFlags := 2, nameIndex := 7, descriptorIndex := 8, attributes := #[] }, { accessFlags := 9, nameIndex := 198, descriptorIndex := 335, attributes := #[] }] 49 4 #[] #[{ accessFlags := 25, nameIndex := 354, descriptorIndex := 339, attributes := #[] }, { accessFlags := 25, nameIndex := 358, descriptorIndex := 339, attributes := #[] }, { accessFlags := 25, nameIndex := 361, descriptorIndex := 339, attributes := #[] }, { accessFlags := 26, nameIndex := 364, descriptorIndex := 339, attributes := #[] }, { accessFlags := 26, nameIndex := 365, descriptorIndex := 339, attributes := #[] }, { accessFlags := 26, nameIndex := 172, descriptorIndex := 173, attributes := #[] }, { accessFlags := 26, nameIndex := 176, descriptorIndex := 173, attributes := #[] }, { accessFlags := 8, nameIndex := 344, descriptorIndex := 339, attributes := #[] }, { accessFlags := 8, nameIndex := 338, descriptorIndex := 339, attributes := #[] }, { accessFlags := 4120, nameIndex := 245, descriptorIndex := 246, attributes := #[] }])
  fields := #[{ name := "E", type := .double, accessFlags := 25, slot := 0, constantValue := 0 }, { name := "PI", type := .double, accessFlags := 25, slot := 1, constantValue := 0 }, { name := "TAU", type := .double, accessFlags := 25, slot := 2, constantValue := 0 }, { name := "DEGREES_TO_RADIANS", type := .double, accessFlags := 26, slot := 3, constantValue := 0 }, { name := "RADIANS_TO_DEGREES", type := .double, accessFlags := 26, slot := 4, constantValue := 0 }, { name := "negativeZeroFloatBits", type := .long, accessFlags := 26, slot := 5, constantValue := 0 }, { name := "negativeZeroDoubleBits", type := .long, accessFlags := 26, slot := 6, constantValue := 0 }, { name := "twoToTheDoubleScaleUp", type := .double, accessFlags := 8, slot := 7, constantValue := 0 }, { name := "twoToTheDoubleScaleDown", type := .double, accessFlags := 8, slot := 8, constantValue := 0 }, { name := "$assertionsDisabled", type := .boolean, accessFlags := 4120, slot := 9, constantValue := 0 }]
  methods := #[k4m0, k4m1]
  instanceTypes := #[]
  staticTypes := #[.double, .double, .double, .double, .double, .long, .long, .double, .double, .boolean]
  resolved := Array.replicate 460 none
  statics := none }

def pool5 : Array CpInfo := pool [(1, u "java/lang/Cloneable"), (0, .class_ 1), (0, u "java/lang/Object"), (0, .class_ 3)] 3

/-- java/lang/Cloneable -/
def k5 : Class := { plain "java/lang/Cloneable" (some 0) with
  accessFlags := 1537
  interfaces := #[]
  cf := some (fileOf pool5 2 #[] #[] 1537 4 #[] #[])
  fields := #[]
  methods := #[]
  instanceTypes := #[]
  staticTypes := #[]
  resolved := Array.replicate 8 none
  statics := none }

def pool6 : Array CpInfo := pool [(1, u "java/io/Serializable"), (0, .class_ 1), (0, u "java/lang/Object"), (0, .class_ 3)] 3

/-- java/io/Serializable -/
def k6 : Class := { plain "java/io/Serializable" (some 0) with
  accessFlags := 1537
  interfaces := #[]
  cf := some (fileOf pool6 2 #[] #[] 1537 4 #[] #[])
  fields := #[]
  methods := #[]
  instanceTypes := #[]
  staticTypes := #[]
  resolved := Array.replicate 8 none
  statics := none }

/-- the primitive byte -/
def k7 : Class := { plain "byte" none with kind := .primitive 'B', accessFlags := 0x411 }
/-- [B -/
def k8 : Class := { plain "[B" (some 0) with kind := .array 7 .byte, interfaces := #[5, 6], accessFlags := 1041 }

/-- the primitive int -/
def k9 : Class := { plain "int" none with kind := .primitive 'I', accessFlags := 0x411 }
/-- [I -/
def k10 : Class := { plain "[I" (some 0) with kind := .array 9 .int, interfaces := #[5, 6], accessFlags := 1041 }

def heap : Heap := #[]
def classes : Array Class := #[k0, k1, k2, k3, k4, k5, k6, k7, k8, k9, k10]
def interned : List (Array UInt16 × Addr) := []
def slotsUsed : Nat := 0
def theMethod : MethodId := ⟨1, 2⟩
def args0 : Array Value := #[.int 5, .int 7, .int 9, .int 1]
def aboutOver (below : List Frame) : State where
  vm := { classes := classes, interned := interned.toArray }
  heap := heap
  slotsUsed := slotsUsed
  threads := #[{ frames := .invoking theMethod args0 :: below }]
def below0 : List Frame := [.native { method := ⟨0, 0⟩, args := #[] }]
def about1 : State := aboutOver below0
def p0 : Program := .bare "" "" ""
def e0 : Env := launch0.env 0 0 0
theorem w_frames : about1.frames = Frame.invoking theMethod args0 :: below0 := rfl
set_option maxRecDepth 65536 in
theorem w_args : argsFit about1.vm theMethod args0 = true := by decide +kernel
set_option maxRecDepth 65536 in
theorem w_heap : heapFits about1 = true := by decide +kernel
set_option maxRecDepth 65536 in
theorem w_runnable : about1.curStatus? = some .runnable := by decide +kernel
set_option maxRecDepth 65536 in
theorem w_alone : about1.alone = true := by decide +kernel
set_option maxRecDepth 65536 in
theorem w_named : about1.methodNamed? x = some theMethod := by decide +kernel
set_option maxRecDepth 65536 in
theorem w_hears : about1.hears theMethod below0 = true := by decide +kernel
set_option maxRecDepth 65536 in
theorem w_ripe : about1.ripe theMethod args0 below0 = true := by decide +kernel
theorem w_running : about1.status = .running := rfl
set_option maxRecDepth 65536 in
theorem w_room : about1.hasRoom e0.platform room_1 = true :=
  launch0.hasRoom_least _ room_1 (by decide +kernel) (by decide +kernel) (by decide +kernel) (by decide +kernel) (by decide +kernel) (by decide +kernel)
theorem allAtoms_all (ts : List Jvm.Cond) (a : Array Jvm.Value) (st : Jvm.State) : (allAtoms ts).before a st = ts.all (fun c => c.before a st) := by
  induction ts with
  | nil => rfl
  | cons c t ih =>
    show (Jvm.Cond.and c (allAtoms t)).before a st = _
    rw [Jvm.Cond.before_and, ih, List.all_cons]
def words1 : List Jvm.Cond := Jvm.Cond.code x code maxLocals ret :: tables_1
/-- a 'code' word, met by the world's own term for the bytes: nothing is compared byte by byte -/
theorem code_word {y : MethodName} {bytes : ByteArray} {mx : Nat} {rt : Option FieldType} {a : Array Value} {s : State} {m : MethodId} {meth : Method} {c : Code} (h1 : s.methodNamed? y = some m) (h2 : s.vm.method? m = some meth) (h3 : meth.code = some c) (h4 : c.code = bytes)
    (h5 : (c.maxLocals == mx && c.exceptionTable.isEmpty && decide (c.maxStack ≤ mostOperands) && decide (meth.sig.returnType = rt) && !meth.locks && decide (parseMethodDescriptor y.desc = some meth.sig)) = true) : (Jvm.Cond.code y bytes mx rt).before a s = true := by
  simp only [Bool.and_eq_true, beq_iff_eq, Bool.not_eq_true', decide_eq_true_eq] at h5
  obtain ⟨⟨⟨⟨⟨g1, g2⟩, g3⟩, g4⟩, g5⟩, g6⟩ := h5
  simp [Cond.before, Cond.holds, Cond.value, h1, h2, h3, h4, g1, g2, g3, g4, g5, g6]
def isCode : Jvm.Cond → Bool
  | .code _ _ _ _ => true
  | _ => false
theorem all_split {L : List Jvm.Cond} {P : Jvm.Cond → Bool} (h1 : L.all (fun c => isCode c || P c) = true) (h2 : ∀ c ∈ L.filter isCode, P c = true) : L.all P = true := by
  refine List.all_eq_true.mpr fun c hc => ?_
  have h := List.all_eq_true.mp h1 c hc
  rcases Bool.eq_false_or_eq_true (isCode c) with hi | hi
  · exact h2 c (List.mem_filter.mpr ⟨hc, hi⟩)
  · simpa [hi] using h
set_option maxRecDepth 65536 in
theorem w_c0 : (Jvm.Cond.code x code maxLocals ret).before args0 about1 = true := code_word (m := ⟨1, 2⟩) (meth := k1m2) (c := k1c2) (by decide +kernel) rfl rfl rfl (by decide +kernel)
set_option maxRecDepth 65536 in
theorem w_c1 : (Jvm.Cond.code ({ cls := "com/example/heronbeck/heronbeck/model/AtLeast", name := "<init>", desc := "(IZ)V" } : Jvm.MethodName) prog_27_method_1_code (3 : Nat) (Option.none : Option Jvm.ClassFile.FieldType)).before args0 about1 = true := code_word (m := ⟨3, 0⟩) (meth := k3m0) (c := k3c0) (by decide +kernel) rfl rfl rfl (by decide +kernel)
set_option maxRecDepth 65536 in
theorem w_c2 : (Jvm.Cond.code ({ cls := "java/lang/Record", name := "<init>", desc := "()V" } : Jvm.MethodName) jdk_30_method_1_code (1 : Nat) (Option.none : Option Jvm.ClassFile.FieldType)).before args0 about1 = true := code_word (m := ⟨2, 0⟩) (meth := k2m0) (c := k2c0) (by decide +kernel) rfl rfl rfl (by decide +kernel)
set_option maxRecDepth 65536 in
theorem w_c3 : (Jvm.Cond.code ({ cls := "java/lang/Object", name := "<init>", desc := "()V" } : Jvm.MethodName) object_method_1_code (1 : Nat) (Option.none : Option Jvm.ClassFile.FieldType)).before args0 about1 = true := code_word (m := ⟨0, 0⟩) (meth := k0m0) (c := k0c0) (by decide +kernel) rfl rfl rfl (by decide +kernel)
set_option maxRecDepth 65536 in
theorem w_c4 : (Jvm.Cond.code ({ cls := "com/example/heronbeck/heronbeck/model/AtLeast", name := "metBy", desc := "(II)Z" } : Jvm.MethodName) prog_27_method_2_code (3 : Nat) (Option.some Jvm.ClassFile.FieldType.boolean)).before args0 about1 = true := code_word (m := ⟨3, 1⟩) (meth := k3m1) (c := k3c1) (by decide +kernel) rfl rfl rfl (by decide +kernel)
set_option maxRecDepth 65536 in
theorem w_c5 : (Jvm.Cond.code ({ cls := "com/example/heronbeck/heronbeck/model/AtLeastMetByPinLaw", name := "ceilHundredth", desc := "(J)J" } : Jvm.MethodName) method_2_code (2 : Nat) (Option.some Jvm.ClassFile.FieldType.long)).before args0 about1 = true := code_word (m := ⟨1, 1⟩) (meth := k1m1) (c := k1c1) (by decide +kernel) rfl rfl rfl (by decide +kernel)
set_option maxRecDepth 65536 in
theorem w_c6 : (Jvm.Cond.code ({ cls := "java/lang/Math", name := "max", desc := "(II)I" } : Jvm.MethodName) jdk_29_method_65_code (2 : Nat) (Option.some Jvm.ClassFile.FieldType.int)).before args0 about1 = true := code_word (m := ⟨4, 1⟩) (meth := k4m1) (c := k4c1) (by decide +kernel) rfl rfl rfl (by decide +kernel)
def codes1 : List Jvm.Cond := [Jvm.Cond.code x code maxLocals ret, Jvm.Cond.code ({ cls := "com/example/heronbeck/heronbeck/model/AtLeast", name := "<init>", desc := "(IZ)V" } : Jvm.MethodName) prog_27_method_1_code (3 : Nat) (Option.none : Option Jvm.ClassFile.FieldType), Jvm.Cond.code ({ cls := "java/lang/Record", name := "<init>", desc := "()V" } : Jvm.MethodName) jdk_30_method_1_code (1 : Nat) (Option.none : Option Jvm.ClassFile.FieldType), Jvm.Cond.code ({ cls := "java/lang/Object", name := "<init>", desc := "()V" } : Jvm.MethodName) object_method_1_code (1 : Nat) (Option.none : Option Jvm.ClassFile.FieldType), Jvm.Cond.code ({ cls := "com/example/heronbeck/heronbeck/model/AtLeast", name := "metBy", desc := "(II)Z" } : Jvm.MethodName) prog_27_method_2_code (3 : Nat) (Option.some Jvm.ClassFile.FieldType.boolean), Jvm.Cond.code ({ cls := "com/example/heronbeck/heronbeck/model/AtLeastMetByPinLaw", name := "ceilHundredth", desc := "(J)J" } : Jvm.MethodName) method_2_code (2 : Nat) (Option.some Jvm.ClassFile.FieldType.long), Jvm.Cond.code ({ cls := "java/lang/Math", name := "max", desc := "(II)I" } : Jvm.MethodName) jdk_29_method_65_code (2 : Nat) (Option.some Jvm.ClassFile.FieldType.int)]
set_option maxRecDepth 65536 in
theorem codes_eq : words1.filter isCode = codes1 := rfl
theorem w_codes : ∀ c ∈ words1.filter isCode, c.before args0 about1 = true := by
  rw [codes_eq]
  intro c hc
  simp only [codes1, List.mem_cons, List.not_mem_nil, or_false] at hc
  rcases hc with rfl | rfl | rfl | rfl | rfl | rfl | rfl
  · exact w_c0
  · exact w_c1
  · exact w_c2
  · exact w_c3
  · exact w_c4
  · exact w_c5
  · exact w_c6
set_option maxRecDepth 65536 in
theorem w_t1 : (words1.take 24).all (fun c => isCode c || c.before args0 about1) = true := by decide +kernel
set_option maxRecDepth 65536 in
theorem w_t2 : (words1.drop 24).all (fun c => isCode c || c.before args0 about1) = true := by decide +kernel
theorem w_tables : (allAtoms (Jvm.Cond.code x code maxLocals ret :: tables_1)).before args0 about1 = true := by
  rw [allAtoms_all]
  show words1.all (fun c => c.before args0 about1) = true
  refine all_split ?_ w_codes
  rw [← List.take_append_drop 24 words1, List.all_append, w_t1, w_t2]
  rfl
set_option maxRecDepth 65536 in
theorem w_case : (Jvm.Cond.and given_1 narrow_1).before args0 about1 = true := by decide +kernel
theorem w_applies : (headSpec (Jvm.Cond.code x code maxLocals ret :: tables_1) room_1).applies x e0.platform about1 = true :=
  (Spec.applies_iff w_frames).mpr ⟨w_running, w_runnable, w_alone, w_named, w_hears, w_ripe, w_room, w_tables⟩
theorem atStart : AtStart classFile x code maxLocals ret World_1 tables_1 room_1 Calls_1 rest_1 Pre_1 launch0 p0 e0 about1 theMethod args0 below0 :=
  ⟨lists_1, trivial, launch0.admits_env _ _ _, launch0.least_env, fairChoices_fair.cas, fairChoices_fair.clock, w_frames, w_args, w_heap, w_applies, trivial, trivial, w_case⟩
end start1
theorem witness_1 : WitnessClaimed_1 := ⟨start1.p0, start1.e0, start1.about1, start1.theMethod, start1.args0, start1.below0, start1.atStart⟩
end Jvm.Pilot.@@N@@
