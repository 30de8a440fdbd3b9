import JvmDerived
import JvmDerived.Pilot.@@N@@Statement
import JvmDerived.Pilot.@@N@@Code
set_option linter.unusedVariables false
set_option linter.unusedSimpArgs false
namespace Jvm.RoadKit
open Sem ClassFile Op Lib Jvm.Stand Jvm.Free Jvm.LawKit
section New
variable {p : Program} {l : Launch} {e : Env} {R : Room} {s : State} {m : MethodId} {args : Array Value} {below : List Frame} {meth : Method} {c : Code} {T : State} {locs : List Loc} {cells slots : Nat}
theorem retI (X : Stand p l e R s m args below meth c T locs cells slots) (hx : p.tables.exec = Jvm.exec) {pc : Nat} {Ls : Array Slot} {z : Int32} {rest : List Value} (hret : meth.sig.returnType = some .int) (hd : decode c.code pc = .ok (.ireturn, 1)) {fs : List Frame}
    (hl : ∀ (f : JFrame) (acts : List Action), f.method = m → f.locked = none → f.entered = [] → (doReturn e (T.setTop f) acts (some (.int z))).1 = T.setFrames fs) : Steps p.tables e below (T.setTop (mkF m pc Ls (.int z :: rest))) (T.setFrames fs) :=
  retOut X hx hret rfl (Or.inl ⟨rfl, Or.inl rfl, z, rfl⟩) hd hl
theorem retJ (X : Stand p l e R s m args below meth c T locs cells slots) (hx : p.tables.exec = Jvm.exec) {pc : Nat} {Ls : Array Slot} {z : Int64} {rest : List Value} (hret : meth.sig.returnType = some .long) (hd : decode c.code pc = .ok (.lreturn, 1)) {fs : List Frame}
    (hl : ∀ (f : JFrame) (acts : List Action), f.method = m → f.locked = none → f.entered = [] → (doReturn e (T.setTop f) acts (some (.long z))).1 = T.setFrames fs) : Steps p.tables e below (T.setTop (mkF m pc Ls (.long z :: rest))) (T.setFrames fs) :=
  retOut X hx hret rfl (Or.inr (Or.inl ⟨rfl, rfl, z, rfl⟩)) hd hl
theorem retA (X : Stand p l e R s m args below meth c T locs cells slots) (hx : p.tables.exec = Jvm.exec) {pc : Nat} {Ls : Array Slot} {w : Value} {rest : List Value} {t : FieldType} (hret : meth.sig.returnType = some t) (ht : t.isReference = true) (hn : narrow t w = w) (hw : w.isRef = true) (hd : decode c.code pc = .ok (.areturn, 1)) {fs : List Frame}
    (hl : ∀ (f : JFrame) (acts : List Action), f.method = m → f.locked = none → f.entered = [] → (doReturn e (T.setTop f) acts (some w)).1 = T.setFrames fs) : Steps p.tables e below (T.setTop (mkF m pc Ls (w :: rest))) (T.setFrames fs) :=
  retOut X hx hret hn (Or.inr (Or.inr (Or.inr (Or.inr ⟨rfl, ht, hw⟩)))) hd hl
end New
end Jvm.RoadKit
namespace Jvm.Pilot.@@N@@
open Jvm Jvm.ClassFile Sem Op Lib Jvm.Free Jvm.Stand Jvm.LawKit Jvm.RoadKit Bundle Jvm.Pilot.@@N@@.Jvm.D
theorem own_ext {h0 h : Heap} (K : Keep h0 h []) : Ext h0 h := ⟨K.1, fun a c q => K.2.1 a c q nin0⟩

theorem own_ladd {x y : Int64} {a b : Int} (hx : x.toInt = a) (hy : y.toInt = b) (h1 : -9223372036854775808 ≤ a + b) (h2 : a + b < 9223372036854775808) : (x + y).toInt = a + b := by
  have h := c_ladd x y; have r := rng64 (x + y); rw [hx, hy] at h; omega
theorem own_lsub {x y : Int64} {a b : Int} (hx : x.toInt = a) (hy : y.toInt = b) (h1 : -9223372036854775808 ≤ a - b) (h2 : a - b < 9223372036854775808) : (x - y).toInt = a - b := by
  have h := c_lsub x y; have r := rng64 (x - y); rw [hx, hy] at h; omega
theorem own_lmul {x y : Int64} {a b : Int} (hx : x.toInt = a) (hy : y.toInt = b) (h1 : -9223372036854775808 ≤ a * b) (h2 : a * b < 9223372036854775808) : (x * y).toInt = a * b := by
  have h := c_lmul x y; have r := rng64 (x * y); rw [hx, hy] at h; omega
theorem own_ldiv {x y : Int64} {a : Int} (d : Int) (hx : x.toInt = a) (hy : y.toInt = d) (h0 : 0 ≤ a) (h1 : y ≠ -1) : (x / y).toInt = a / d := by
  have h := (c_ldiv x y d hy h1).1 (by omega); rw [hx] at h; exact h

def own_mb (p u m : Int64) : Int64 := (188 : Int64) * ((((((p + ((33 : Int64) * u)) + (184 : Int64)) - (1 : Int64)) / (184 : Int64)) + u) + ((((2 : Int64) * ((1 : Int64) + (m / (100 : Int64)))) + (1 : Int64)) + (m / (500 : Int64))))
theorem own_m40 (x : Int64) : 0 ≤ (x &&& (1099511627775 : Int64)).toInt ∧ (x &&& (1099511627775 : Int64)).toInt < 1099511627776 := by
  have := c_maskL x (1099511627775 : Int64) 40 (by decide) (by decide); omega
theorem own_rem (x q : Int32) (d : Int) (hd : 0 < d) (hq : q.toInt = d) : 0 ≤ ((x &&& (2147483647 : Int32)) % q).toInt64.toInt ∧ ((x &&& (2147483647 : Int32)) % q).toInt64.toInt < d := by
  have h1 := (c_and x (2147483647 : Int32) (by decide)).1
  have h2 := (c_irem (x &&& (2147483647 : Int32)) q d hq).1 h1
  rw [c_i2l, h2]
  exact ⟨Int.emod_nonneg _ (by omega), Int.emod_lt_of_pos _ hd⟩
theorem own_key {m s u a b c w : Int64} (hm : 0 ≤ m.toInt ∧ m.toInt < 1099511627776) (hs : 0 ≤ s.toInt ∧ s.toInt < 184) (hu : 0 ≤ u.toInt ∧ u.toInt < 1099511627776) (ha : 0 ≤ a.toInt ∧ a.toInt < 1099511627776) (hb : 0 ≤ b.toInt ∧ b.toInt < 5) (hc : 0 ≤ c.toInt ∧ c.toInt < 100)
    (hp : ¬ ((((184 : Int64) * m + s) - ((33 : Int64) * u)) < (0 : Int64))) (hw : w = if s = (0 : Int64) then (0 : Int64) else (1 : Int64)) :
    own_mb (((184 : Int64) * m + s) - ((33 : Int64) * u)) u ((((500 : Int64) * a) + ((100 : Int64) * b)) + c) = (188 : Int64) * (((m + w) + u) + (((3 : Int64) + ((11 : Int64) * a)) + ((2 : Int64) * b))) := by
  have k0 : (0 : Int64).toInt = 0 := by decide
  have k1 : (1 : Int64).toInt = 1 := by decide
  have k2 : (2 : Int64).toInt = 2 := by decide
  have k3 : (3 : Int64).toInt = 3 := by decide
  have k11 : (11 : Int64).toInt = 11 := by decide
  have k33 : (33 : Int64).toInt = 33 := by decide
  have k100 : (100 : Int64).toInt = 100 := by decide
  have k184 : (184 : Int64).toInt = 184 := by decide
  have k188 : (188 : Int64).toInt = 188 := by decide
  have k500 : (500 : Int64).toInt = 500 := by decide
  have hw' : (s.toInt = 0 ∧ w.toInt = 0) ∨ (s.toInt ≠ 0 ∧ w.toInt = 1) := by
    by_cases q : s = 0
    · left; rw [hw, if_pos q, q]; exact ⟨k0, k0⟩
    · right; rw [hw, if_neg q]; exact ⟨fun z => q (Int64.toInt_inj.mp (by rw [z, k0])), k1⟩
  have e1 := own_lmul (x := 184) (y := m) k184 rfl (by omega) (by omega)
  have e2 := own_ladd e1 (y := s) rfl (by omega) (by omega)
  have e3 := own_lmul (x := 33) (y := u) k33 rfl (by omega) (by omega)
  have e4 := own_lsub e2 e3 (by omega) (by omega)
  rw [Int64.lt_iff_toInt_lt, e4, k0] at hp
  have e5 := own_ladd e4 e3 (by omega) (by omega)
  have e6 := own_ladd e5 k184 (by omega) (by omega)
  have e7 := own_lsub e6 k1 (by omega) (by omega)
  have e8 := own_ldiv 184 e7 k184 (by omega) (by decide)
  have e9 := own_ladd e8 (y := u) rfl (by omega) (by omega)
  have f1 := own_lmul (x := 500) (y := a) k500 rfl (by omega) (by omega)
  have f2 := own_lmul (x := 100) (y := b) k100 rfl (by omega) (by omega)
  have f3 := own_ladd f1 f2 (by omega) (by omega)
  have f4 := own_ladd f3 (y := c) rfl (by omega) (by omega)
  have f5 := own_ldiv 100 f4 k100 (by omega) (by decide)
  have f6 := own_ldiv 500 f4 k500 (by omega) (by decide)
  have f7 := own_ladd k1 f5 (by omega) (by omega)
  have f8 := own_lmul k2 f7 (by omega) (by omega)
  have f9 := own_ladd f8 k1 (by omega) (by omega)
  have f10 := own_ladd f9 f6 (by omega) (by omega)
  have g1 := own_ladd e9 f10 (by omega) (by omega)
  have g2 := own_lmul k188 g1 (by omega) (by omega)
  have i1 := own_ladd (x := m) (y := w) rfl rfl (by omega) (by omega)
  have i2 := own_ladd i1 (y := u) rfl (by omega) (by omega)
  have i3 := own_lmul (x := 11) (y := a) k11 rfl (by omega) (by omega)
  have i4 := own_ladd k3 i3 (by omega) (by omega)
  have i5 := own_lmul (x := 2) (y := b) k2 rfl (by omega) (by omega)
  have i6 := own_ladd i4 i5 (by omega) (by omega)
  have i7 := own_ladd i2 i6 (by omega) (by omega)
  have i8 := own_lmul k188 i7 (by omega) (by omega)
  apply Int64.toInt_inj.mp
  unfold own_mb
  rw [g2, i8]
  omega
theorem own_pn0 : plainName "com/example/clotho/clotho/model/MpegTs" = true := by first | (simp [plainName, overriddenIn]; done) | decide +kernel
theorem own_d1_0 : decode prog_40_method_1_code 0 = .ok (.aload_n 0, 1) := by decide +kernel
theorem own_d1_1 : decode prog_40_method_1_code 1 = .ok (.invokespecial 1, 3) := by decide +kernel
theorem own_d1_4 : decode prog_40_method_1_code 4 = .ok (.return_, 1) := by decide +kernel
def own_Q1 (Z : State) (xthis : Addr) (h0 : Heap) (n0 : Nat) (v : Option Value) (h : Heap) (L : List Loc) : Prop := v = none ∧ Fr n0 L ∧ h = h0
theorem own_ef1 (m : MethodId) (xthis : Addr) : entryFrame m #[(.ref xthis)] 1 = mkF m 0 #[.val (.ref xthis)] [] := by first | (simp [entryFrame, mkF, argsToLocals, Value.category]; done) | rfl
set_option maxRecDepth 65536 in
set_option maxHeartbeats 40000000 in
theorem own_rm1 (l : Launch) (Z : State) (a0 : Array Value) (hw : ∀ d ∈ tables_1, d.before a0 Z = true) (ws : List Jvm.Cond) (xthis : Addr) (h0 : Heap) (n0 : Nat) (Z0 : n0 ≤ h0.size)  :
    MetFree l (⟨"com/example/clotho/clotho/model/MpegTs", "<init>", "()V"⟩ : MethodName) (head1 (Jvm.Cond.code (⟨"com/example/clotho/clotho/model/MpegTs", "<init>", "()V"⟩ : MethodName) prog_40_method_1_code 1 none :: ws) ({ frames := 1, cells := 0, slots := 0, locals := 12 } : Room)) (fun a U => a = #[(.ref xthis)] ∧ Z.Warmed39 U.vm ∧ U.heap = h0) (fun _ _ _ _ _ => True) (fun _ U o U' => ∃ v L, o = .returned v ∧ own_Q1 Z xthis h0 n0 v U'.heap L ∧ FrameEnd U o U' L ({ frames := 1, cells := 0, slots := 0, locals := 12 } : Room).cells ({ frames := 1, cells := 0, slots := 0, locals := 12 } : Room).slots) := by
  refine MetFree.of_bodySF (plainFor_of_name own_pn0) hisR ?_
  intro p e s m args below meth c s₁ Bd hml0 hP hK
  obtain ⟨rfl, hZ, hh⟩ := hP
  have hx := Bd.exec
  have hby := Bd.bytes
  have hml : c.maxLocals = 1 := hml0
  have hown : s.vm.findClass "com/example/clotho/clotho/model/MpegTs" = some m.cls := findClass_of_methodNamed Bd.named
  have hnm := (name_of_methodNamed Bd.named Bd.method).1
  have X0 : Stand p l e ({ frames := 1, cells := 0, slots := 0, locals := 12 } : Room) s m #[(.ref xthis)] below meth c s₁ [] 0 0 := Stand.of_body Bd
  have e0 : s₁.heap = h0 := by rw [← hh, Bd.state]; rfl
  have N0 := Fr.nil n0
  have pre0 : ∀ t, Steps p.tables e below (s₁.setTop (mkF m 0 #[.val (.ref xthis)] [])) t → Steps p.tables e below (s₁.setTop (entryFrame m #[(.ref xthis)] 1)) t := fun t k => castTop (own_ef1 m xthis) k
  obtain ⟨T1, X1, e1, st1⟩ := initO X0 hx hZ hown (hw _ (List.mem_of_getElem? (i := 16) rfl)) (hw _ (List.mem_of_getElem? (i := 17) rfl)) (hw _ (List.mem_of_getElem? (i := 18) rfl)) e0 (g := (mkF m 1 #[.val (.ref xthis)] [(.ref xthis)])) rfl (by rw [hml]; rfl) rfl (hb hby own_d1_1) (by decide) (W := 0) (by show 2 * 0 + _ ≤ _; exact Nat.le_of_eq rfl) (by decide)
  obtain ⟨fs, hr, hrun, hended, hW, hsame⟩ := X1.leave (v := none) (fun _ => rfl)
  refine ⟨_, _, pre0 _ ?_, hrun, hended, _, _, rfl, ?_, ⟨_, rfl⟩, hW, hsame.mono (by decide) (by decide)⟩
  · show Steps p.tables e below (s₁.setTop (mkF m 0 #[.val (.ref xthis)] [])) _
    refine XS.aloadN X0.here hx rfl (hb hby own_d1_0) rfl rfl ?_
    show Steps p.tables e below (s₁.setTop (mkF m 1 #[.val (.ref xthis)] [(.ref xthis)])) _
    refine st1 _ ?_
    show Steps p.tables e below (T1.setTop (mkF m 4 #[.val (.ref xthis)] [])) _
    exact X1.returnOut hx Bd.returns (hb hby own_d1_4) hr
  · show own_Q1 Z xthis h0 n0 _ T1.heap _
    rw [e1]
    exact ⟨rfl, N0, rfl⟩
theorem own_d3_0 : decode prog_40_method_6_code 0 = .ok (.lload_n 1, 1) := by decide +kernel
theorem own_d3_1 : decode prog_40_method_6_code 1 = .ok (.ldc2_w 21, 3) := by decide +kernel
theorem own_d3_4 : decode prog_40_method_6_code 4 = .ok (.lload_n 3, 1) := by decide +kernel
theorem own_d3_5 : decode prog_40_method_6_code 5 = .ok (.lmul, 1) := by decide +kernel
theorem own_d3_6 : decode prog_40_method_6_code 6 = .ok (.ladd, 1) := by decide +kernel
theorem own_d3_7 : decode prog_40_method_6_code 7 = .ok (.lstore 7, 2) := by decide +kernel
theorem own_d3_9 : decode prog_40_method_6_code 9 = .ok (.lload 7, 2) := by decide +kernel
theorem own_d3_11 : decode prog_40_method_6_code 11 = .ok (.ldc2_w 23, 3) := by decide +kernel
theorem own_d3_14 : decode prog_40_method_6_code 14 = .ok (.ladd, 1) := by decide +kernel
theorem own_d3_15 : decode prog_40_method_6_code 15 = .ok (.lconst 1, 1) := by decide +kernel
theorem own_d3_16 : decode prog_40_method_6_code 16 = .ok (.lsub, 1) := by decide +kernel
theorem own_d3_17 : decode prog_40_method_6_code 17 = .ok (.ldc2_w 23, 3) := by decide +kernel
theorem own_d3_20 : decode prog_40_method_6_code 20 = .ok (.ldiv, 1) := by decide +kernel
theorem own_d3_21 : decode prog_40_method_6_code 21 = .ok (.lload_n 3, 1) := by decide +kernel
theorem own_d3_22 : decode prog_40_method_6_code 22 = .ok (.ladd, 1) := by decide +kernel
theorem own_d3_23 : decode prog_40_method_6_code 23 = .ok (.lstore 9, 2) := by decide +kernel
theorem own_d3_25 : decode prog_40_method_6_code 25 = .ok (.ldc2_w 25, 3) := by decide +kernel
theorem own_d3_28 : decode prog_40_method_6_code 28 = .ok (.lconst 1, 1) := by decide +kernel
theorem own_d3_29 : decode prog_40_method_6_code 29 = .ok (.lload 5, 2) := by decide +kernel
theorem own_d3_31 : decode prog_40_method_6_code 31 = .ok (.ldc2_w 27, 3) := by decide +kernel
theorem own_d3_34 : decode prog_40_method_6_code 34 = .ok (.ldiv, 1) := by decide +kernel
theorem own_d3_35 : decode prog_40_method_6_code 35 = .ok (.ladd, 1) := by decide +kernel
theorem own_d3_36 : decode prog_40_method_6_code 36 = .ok (.lmul, 1) := by decide +kernel
theorem own_d3_37 : decode prog_40_method_6_code 37 = .ok (.lconst 1, 1) := by decide +kernel
theorem own_d3_38 : decode prog_40_method_6_code 38 = .ok (.ladd, 1) := by decide +kernel
theorem own_d3_39 : decode prog_40_method_6_code 39 = .ok (.lload 5, 2) := by decide +kernel
theorem own_d3_41 : decode prog_40_method_6_code 41 = .ok (.ldc2_w 29, 3) := by decide +kernel
theorem own_d3_44 : decode prog_40_method_6_code 44 = .ok (.ldiv, 1) := by decide +kernel
theorem own_d3_45 : decode prog_40_method_6_code 45 = .ok (.ladd, 1) := by decide +kernel
theorem own_d3_46 : decode prog_40_method_6_code 46 = .ok (.lstore 11, 2) := by decide +kernel
theorem own_d3_48 : decode prog_40_method_6_code 48 = .ok (.ldc2_w 31, 3) := by decide +kernel
theorem own_d3_51 : decode prog_40_method_6_code 51 = .ok (.lload 9, 2) := by decide +kernel
theorem own_d3_53 : decode prog_40_method_6_code 53 = .ok (.lload 11, 2) := by decide +kernel
theorem own_d3_55 : decode prog_40_method_6_code 55 = .ok (.ladd, 1) := by decide +kernel
theorem own_d3_56 : decode prog_40_method_6_code 56 = .ok (.lmul, 1) := by decide +kernel
theorem own_d3_57 : decode prog_40_method_6_code 57 = .ok (.lreturn, 1) := by decide +kernel
def own_Q3 (Z : State) (xthis : Addr) (xp : Int64) (xu : Int64) (xm : Int64) (h0 : Heap) (n0 : Nat) (v : Option Value) (h : Heap) (L : List Loc) : Prop := v = some (.long (own_mb xp xu xm)) ∧ Fr n0 L ∧ h = h0
theorem own_ef3 (m : MethodId) (xthis : Addr) (xp : Int64) (xu : Int64) (xm : Int64) : entryFrame m #[(.ref xthis), (.long xp), (.long xu), (.long xm)] 13 = mkF m 0 #[.val (.ref xthis), .val (.long xp), .second, .val (.long xu), .second, .val (.long xm), .second, .unset, .unset, .unset, .unset, .unset, .unset] [] := by first | (simp [entryFrame, mkF, argsToLocals, Value.category]; done) | rfl
set_option maxRecDepth 65536 in
set_option maxHeartbeats 40000000 in
theorem own_rm3 (l : Launch) (Z : State) (a0 : Array Value) (hw : ∀ d ∈ tables_1, d.before a0 Z = true) (ws : List Jvm.Cond) (xthis : Addr) (xp : Int64) (xu : Int64) (xm : Int64) (h0 : Heap) (n0 : Nat) (Z0 : n0 ≤ h0.size)  :
    MetFree l (⟨"com/example/clotho/clotho/model/MpegTs", "maxBytes", "(JJJ)J"⟩ : MethodName) (head1 (Jvm.Cond.code (⟨"com/example/clotho/clotho/model/MpegTs", "maxBytes", "(JJJ)J"⟩ : MethodName) prog_40_method_6_code 13 (some .long) :: ws) ({ frames := 0, cells := 0, slots := 0, locals := 0 } : Room)) (fun a U => a = #[(.ref xthis), (.long xp), (.long xu), (.long xm)] ∧ Z.Warmed39 U.vm ∧ U.heap = h0) (fun _ _ _ _ _ => True) (fun _ U o U' => ∃ v L, o = .returned v ∧ own_Q3 Z xthis xp xu xm h0 n0 v U'.heap L ∧ FrameEnd U o U' L ({ frames := 0, cells := 0, slots := 0, locals := 0 } : Room).cells ({ frames := 0, cells := 0, slots := 0, locals := 0 } : Room).slots) := by
  refine MetFree.of_bodySF (plainFor_of_name own_pn0) hisR ?_
  intro p e s m args below meth c s₁ Bd hml0 hP hK
  obtain ⟨rfl, hZ, hh⟩ := hP
  have hx := Bd.exec
  have hby := Bd.bytes
  have hml : c.maxLocals = 13 := hml0
  have hown : s.vm.findClass "com/example/clotho/clotho/model/MpegTs" = some m.cls := findClass_of_methodNamed Bd.named
  have hnm := (name_of_methodNamed Bd.named Bd.method).1
  have X0 : Stand p l e ({ frames := 0, cells := 0, slots := 0, locals := 0 } : Room) s m #[(.ref xthis), (.long xp), (.long xu), (.long xm)] below meth c s₁ [] 0 0 := Stand.of_body Bd
  have e0 : s₁.heap = h0 := by rw [← hh, Bd.state]; rfl
  have N0 := Fr.nil n0
  have pre0 : ∀ t, Steps p.tables e below (s₁.setTop (mkF m 0 #[.val (.ref xthis), .val (.long xp), .second, .val (.long xu), .second, .val (.long xm), .second, .unset, .unset, .unset, .unset, .unset, .unset] [])) t → Steps p.tables e below (s₁.setTop (entryFrame m #[(.ref xthis), (.long xp), (.long xu), (.long xm)] 13)) t := fun t k => castTop (own_ef3 m xthis xp xu xm) k
  obtain ⟨v7, hv7⟩ : ∃ w : Int64, w = (xp + ((33 : Int64) * xu)) := ⟨_, rfl⟩
  have pre1 : ∀ t, Steps p.tables e below (s₁.setTop (mkF m 9 #[.val (.ref xthis), .val (.long xp), .second, .val (.long xu), .second, .val (.long xm), .second, .val (.long v7), .second, .unset, .unset, .unset, .unset] [])) t → Steps p.tables e below (s₁.setTop (entryFrame m #[(.ref xthis), (.long xp), (.long xu), (.long xm)] 13)) t := by
    intro t k
    rw [hv7] at k
    refine pre0 _ ?_
    show Steps p.tables e below (s₁.setTop (mkF m 0 #[.val (.ref xthis), .val (.long xp), .second, .val (.long xu), .second, .val (.long xm), .second, .unset, .unset, .unset, .unset, .unset, .unset] [])) _
    refine XS.lloadN X0.here hx rfl (hb hby own_d3_0) rfl ?_
    show Steps p.tables e below (s₁.setTop (mkF m 1 #[.val (.ref xthis), .val (.long xp), .second, .val (.long xu), .second, .val (.long xm), .second, .unset, .unset, .unset, .unset, .unset, .unset] [(.long xp)])) _
    refine X0.ldc2Long hx hown (mvT hZ (hw _ (List.mem_of_getElem? (i := 24) rfl))) (g := (mkF m 1 #[.val (.ref xthis), .val (.long xp), .second, .val (.long xu), .second, .val (.long xm), .second, .unset, .unset, .unset, .unset, .unset, .unset] [(.long xp)])) rfl (hb hby own_d3_1) _ ?_
    show Steps p.tables e below (s₁.setTop (mkF m 4 #[.val (.ref xthis), .val (.long xp), .second, .val (.long xu), .second, .val (.long xm), .second, .unset, .unset, .unset, .unset, .unset, .unset] [(.long (33 : Int64)), (.long xp)])) _
    refine XS.lloadN X0.here hx rfl (hb hby own_d3_4) rfl ?_
    show Steps p.tables e below (s₁.setTop (mkF m 5 #[.val (.ref xthis), .val (.long xp), .second, .val (.long xu), .second, .val (.long xm), .second, .unset, .unset, .unset, .unset, .unset, .unset] [(.long xu), (.long (33 : Int64)), (.long xp)])) _
    refine XS.lmul X0.here hx rfl (hb hby own_d3_5) rfl ?_
    show Steps p.tables e below (s₁.setTop (mkF m 6 #[.val (.ref xthis), .val (.long xp), .second, .val (.long xu), .second, .val (.long xm), .second, .unset, .unset, .unset, .unset, .unset, .unset] [(.long ((33 : Int64) * xu)), (.long xp)])) _
    refine XS.ladd X0.here hx rfl (hb hby own_d3_6) rfl ?_
    show Steps p.tables e below (s₁.setTop (mkF m 7 #[.val (.ref xthis), .val (.long xp), .second, .val (.long xu), .second, .val (.long xm), .second, .unset, .unset, .unset, .unset, .unset, .unset] [(.long (xp + ((33 : Int64) * xu)))])) _
    refine XS.lstore X0.here hx rfl (hb hby own_d3_7) rfl (l' := #[.val (.ref xthis), .val (.long xp), .second, .val (.long xu), .second, .val (.long xm), .second, .val (.long (xp + ((33 : Int64) * xu))), .second, .unset, .unset, .unset, .unset]) rfl ?_
    exact k
  obtain ⟨v23, hv23⟩ : ∃ w : Int64, w = ((((v7 + (184 : Int64)) - (1 : Int64)) / (184 : Int64)) + xu) := ⟨_, rfl⟩
  have pre2 : ∀ t, Steps p.tables e below (s₁.setTop (mkF m 25 #[.val (.ref xthis), .val (.long xp), .second, .val (.long xu), .second, .val (.long xm), .second, .val (.long v7), .second, .val (.long v23), .second, .unset, .unset] [])) t → Steps p.tables e below (s₁.setTop (entryFrame m #[(.ref xthis), (.long xp), (.long xu), (.long xm)] 13)) t := by
    intro t k
    rw [hv23] at k
    refine pre1 _ ?_
    show Steps p.tables e below (s₁.setTop (mkF m 9 #[.val (.ref xthis), .val (.long xp), .second, .val (.long xu), .second, .val (.long xm), .second, .val (.long v7), .second, .unset, .unset, .unset, .unset] [])) _
    refine XS.lload X0.here hx rfl (hb hby own_d3_9) rfl ?_
    show Steps p.tables e below (s₁.setTop (mkF m 11 #[.val (.ref xthis), .val (.long xp), .second, .val (.long xu), .second, .val (.long xm), .second, .val (.long v7), .second, .unset, .unset, .unset, .unset] [(.long v7)])) _
    refine X0.ldc2Long hx hown (mvT hZ (hw _ (List.mem_of_getElem? (i := 25) rfl))) (g := (mkF m 11 #[.val (.ref xthis), .val (.long xp), .second, .val (.long xu), .second, .val (.long xm), .second, .val (.long v7), .second, .unset, .unset, .unset, .unset] [(.long v7)])) rfl (hb hby own_d3_11) _ ?_
    show Steps p.tables e below (s₁.setTop (mkF m 14 #[.val (.ref xthis), .val (.long xp), .second, .val (.long xu), .second, .val (.long xm), .second, .val (.long v7), .second, .unset, .unset, .unset, .unset] [(.long (184 : Int64)), (.long v7)])) _
    refine XS.ladd X0.here hx rfl (hb hby own_d3_14) rfl ?_
    show Steps p.tables e below (s₁.setTop (mkF m 15 #[.val (.ref xthis), .val (.long xp), .second, .val (.long xu), .second, .val (.long xm), .second, .val (.long v7), .second, .unset, .unset, .unset, .unset] [(.long (v7 + (184 : Int64)))])) _
    refine XS.lconst X0.here hx rfl (hb hby own_d3_15) ?_
    show Steps p.tables e below (s₁.setTop (mkF m 16 #[.val (.ref xthis), .val (.long xp), .second, .val (.long xu), .second, .val (.long xm), .second, .val (.long v7), .second, .unset, .unset, .unset, .unset] [(.long (1 : Int64)), (.long (v7 + (184 : Int64)))])) _
    refine XS.lsub X0.here hx rfl (hb hby own_d3_16) rfl ?_
    show Steps p.tables e below (s₁.setTop (mkF m 17 #[.val (.ref xthis), .val (.long xp), .second, .val (.long xu), .second, .val (.long xm), .second, .val (.long v7), .second, .unset, .unset, .unset, .unset] [(.long ((v7 + (184 : Int64)) - (1 : Int64)))])) _
    refine X0.ldc2Long hx hown (mvT hZ (hw _ (List.mem_of_getElem? (i := 25) rfl))) (g := (mkF m 17 #[.val (.ref xthis), .val (.long xp), .second, .val (.long xu), .second, .val (.long xm), .second, .val (.long v7), .second, .unset, .unset, .unset, .unset] [(.long ((v7 + (184 : Int64)) - (1 : Int64)))])) rfl (hb hby own_d3_17) _ ?_
    show Steps p.tables e below (s₁.setTop (mkF m 20 #[.val (.ref xthis), .val (.long xp), .second, .val (.long xu), .second, .val (.long xm), .second, .val (.long v7), .second, .unset, .unset, .unset, .unset] [(.long (184 : Int64)), (.long ((v7 + (184 : Int64)) - (1 : Int64)))])) _
    refine XS.ldiv X0.here hx rfl (hb hby own_d3_20) rfl (by decide) ?_
    show Steps p.tables e below (s₁.setTop (mkF m 21 #[.val (.ref xthis), .val (.long xp), .second, .val (.long xu), .second, .val (.long xm), .second, .val (.long v7), .second, .unset, .unset, .unset, .unset] [(.long (((v7 + (184 : Int64)) - (1 : Int64)) / (184 : Int64)))])) _
    refine XS.lloadN X0.here hx rfl (hb hby own_d3_21) rfl ?_
    show Steps p.tables e below (s₁.setTop (mkF m 22 #[.val (.ref xthis), .val (.long xp), .second, .val (.long xu), .second, .val (.long xm), .second, .val (.long v7), .second, .unset, .unset, .unset, .unset] [(.long xu), (.long (((v7 + (184 : Int64)) - (1 : Int64)) / (184 : Int64)))])) _
    refine XS.ladd X0.here hx rfl (hb hby own_d3_22) rfl ?_
    show Steps p.tables e below (s₁.setTop (mkF m 23 #[.val (.ref xthis), .val (.long xp), .second, .val (.long xu), .second, .val (.long xm), .second, .val (.long v7), .second, .unset, .unset, .unset, .unset] [(.long ((((v7 + (184 : Int64)) - (1 : Int64)) / (184 : Int64)) + xu))])) _
    refine XS.lstore X0.here hx rfl (hb hby own_d3_23) rfl (l' := #[.val (.ref xthis), .val (.long xp), .second, .val (.long xu), .second, .val (.long xm), .second, .val (.long v7), .second, .val (.long ((((v7 + (184 : Int64)) - (1 : Int64)) / (184 : Int64)) + xu)), .second, .unset, .unset]) rfl ?_
    exact k
  obtain ⟨v46, hv46⟩ : ∃ w : Int64, w = ((((2 : Int64) * ((1 : Int64) + (xm / (100 : Int64)))) + (1 : Int64)) + (xm / (500 : Int64))) := ⟨_, rfl⟩
  have pre3 : ∀ t, Steps p.tables e below (s₁.setTop (mkF m 48 #[.val (.ref xthis), .val (.long xp), .second, .val (.long xu), .second, .val (.long xm), .second, .val (.long v7), .second, .val (.long v23), .second, .val (.long v46), .second] [])) t → Steps p.tables e below (s₁.setTop (entryFrame m #[(.ref xthis), (.long xp), (.long xu), (.long xm)] 13)) t := by
    intro t k
    rw [hv46] at k
    refine pre2 _ ?_
    show Steps p.tables e below (s₁.setTop (mkF m 25 #[.val (.ref xthis), .val (.long xp), .second, .val (.long xu), .second, .val (.long xm), .second, .val (.long v7), .second, .val (.long v23), .second, .unset, .unset] [])) _
    refine X0.ldc2Long hx hown (mvT hZ (hw _ (List.mem_of_getElem? (i := 26) rfl))) (g := (mkF m 25 #[.val (.ref xthis), .val (.long xp), .second, .val (.long xu), .second, .val (.long xm), .second, .val (.long v7), .second, .val (.long v23), .second, .unset, .unset] [])) rfl (hb hby own_d3_25) _ ?_
    show Steps p.tables e below (s₁.setTop (mkF m 28 #[.val (.ref xthis), .val (.long xp), .second, .val (.long xu), .second, .val (.long xm), .second, .val (.long v7), .second, .val (.long v23), .second, .unset, .unset] [(.long (2 : Int64))])) _
    refine XS.lconst X0.here hx rfl (hb hby own_d3_28) ?_
    show Steps p.tables e below (s₁.setTop (mkF m 29 #[.val (.ref xthis), .val (.long xp), .second, .val (.long xu), .second, .val (.long xm), .second, .val (.long v7), .second, .val (.long v23), .second, .unset, .unset] [(.long (1 : Int64)), (.long (2 : Int64))])) _
    refine XS.lload X0.here hx rfl (hb hby own_d3_29) rfl ?_
    show Steps p.tables e below (s₁.setTop (mkF m 31 #[.val (.ref xthis), .val (.long xp), .second, .val (.long xu), .second, .val (.long xm), .second, .val (.long v7), .second, .val (.long v23), .second, .unset, .unset] [(.long xm), (.long (1 : Int64)), (.long (2 : Int64))])) _
    refine X0.ldc2Long hx hown (mvT hZ (hw _ (List.mem_of_getElem? (i := 27) rfl))) (g := (mkF m 31 #[.val (.ref xthis), .val (.long xp), .second, .val (.long xu), .second, .val (.long xm), .second, .val (.long v7), .second, .val (.long v23), .second, .unset, .unset] [(.long xm), (.long (1 : Int64)), (.long (2 : Int64))])) rfl (hb hby own_d3_31) _ ?_
    show Steps p.tables e below (s₁.setTop (mkF m 34 #[.val (.ref xthis), .val (.long xp), .second, .val (.long xu), .second, .val (.long xm), .second, .val (.long v7), .second, .val (.long v23), .second, .unset, .unset] [(.long (100 : Int64)), (.long xm), (.long (1 : Int64)), (.long (2 : Int64))])) _
    refine XS.ldiv X0.here hx rfl (hb hby own_d3_34) rfl (by decide) ?_
    show Steps p.tables e below (s₁.setTop (mkF m 35 #[.val (.ref xthis), .val (.long xp), .second, .val (.long xu), .second, .val (.long xm), .second, .val (.long v7), .second, .val (.long v23), .second, .unset, .unset] [(.long (xm / (100 : Int64))), (.long (1 : Int64)), (.long (2 : Int64))])) _
    refine XS.ladd X0.here hx rfl (hb hby own_d3_35) rfl ?_
    show Steps p.tables e below (s₁.setTop (mkF m 36 #[.val (.ref xthis), .val (.long xp), .second, .val (.long xu), .second, .val (.long xm), .second, .val (.long v7), .second, .val (.long v23), .second, .unset, .unset] [(.long ((1 : Int64) + (xm / (100 : Int64)))), (.long (2 : Int64))])) _
    refine XS.lmul X0.here hx rfl (hb hby own_d3_36) rfl ?_
    show Steps p.tables e below (s₁.setTop (mkF m 37 #[.val (.ref xthis), .val (.long xp), .second, .val (.long xu), .second, .val (.long xm), .second, .val (.long v7), .second, .val (.long v23), .second, .unset, .unset] [(.long ((2 : Int64) * ((1 : Int64) + (xm / (100 : Int64)))))])) _
    refine XS.lconst X0.here hx rfl (hb hby own_d3_37) ?_
    show Steps p.tables e below (s₁.setTop (mkF m 38 #[.val (.ref xthis), .val (.long xp), .second, .val (.long xu), .second, .val (.long xm), .second, .val (.long v7), .second, .val (.long v23), .second, .unset, .unset] [(.long (1 : Int64)), (.long ((2 : Int64) * ((1 : Int64) + (xm / (100 : Int64)))))])) _
    refine XS.ladd X0.here hx rfl (hb hby own_d3_38) rfl ?_
    show Steps p.tables e below (s₁.setTop (mkF m 39 #[.val (.ref xthis), .val (.long xp), .second, .val (.long xu), .second, .val (.long xm), .second, .val (.long v7), .second, .val (.long v23), .second, .unset, .unset] [(.long (((2 : Int64) * ((1 : Int64) + (xm / (100 : Int64)))) + (1 : Int64)))])) _
    refine XS.lload X0.here hx rfl (hb hby own_d3_39) rfl ?_
    show Steps p.tables e below (s₁.setTop (mkF m 41 #[.val (.ref xthis), .val (.long xp), .second, .val (.long xu), .second, .val (.long xm), .second, .val (.long v7), .second, .val (.long v23), .second, .unset, .unset] [(.long xm), (.long (((2 : Int64) * ((1 : Int64) + (xm / (100 : Int64)))) + (1 : Int64)))])) _
    refine X0.ldc2Long hx hown (mvT hZ (hw _ (List.mem_of_getElem? (i := 28) rfl))) (g := (mkF m 41 #[.val (.ref xthis), .val (.long xp), .second, .val (.long xu), .second, .val (.long xm), .second, .val (.long v7), .second, .val (.long v23), .second, .unset, .unset] [(.long xm), (.long (((2 : Int64) * ((1 : Int64) + (xm / (100 : Int64)))) + (1 : Int64)))])) rfl (hb hby own_d3_41) _ ?_
    show Steps p.tables e below (s₁.setTop (mkF m 44 #[.val (.ref xthis), .val (.long xp), .second, .val (.long xu), .second, .val (.long xm), .second, .val (.long v7), .second, .val (.long v23), .second, .unset, .unset] [(.long (500 : Int64)), (.long xm), (.long (((2 : Int64) * ((1 : Int64) + (xm / (100 : Int64)))) + (1 : Int64)))])) _
    refine XS.ldiv X0.here hx rfl (hb hby own_d3_44) rfl (by decide) ?_
    show Steps p.tables e below (s₁.setTop (mkF m 45 #[.val (.ref xthis), .val (.long xp), .second, .val (.long xu), .second, .val (.long xm), .second, .val (.long v7), .second, .val (.long v23), .second, .unset, .unset] [(.long (xm / (500 : Int64))), (.long (((2 : Int64) * ((1 : Int64) + (xm / (100 : Int64)))) + (1 : Int64)))])) _
    refine XS.ladd X0.here hx rfl (hb hby own_d3_45) rfl ?_
    show Steps p.tables e below (s₁.setTop (mkF m 46 #[.val (.ref xthis), .val (.long xp), .second, .val (.long xu), .second, .val (.long xm), .second, .val (.long v7), .second, .val (.long v23), .second, .unset, .unset] [(.long ((((2 : Int64) * ((1 : Int64) + (xm / (100 : Int64)))) + (1 : Int64)) + (xm / (500 : Int64))))])) _
    refine XS.lstore X0.here hx rfl (hb hby own_d3_46) rfl (l' := #[.val (.ref xthis), .val (.long xp), .second, .val (.long xu), .second, .val (.long xm), .second, .val (.long v7), .second, .val (.long v23), .second, .val (.long ((((2 : Int64) * ((1 : Int64) + (xm / (100 : Int64)))) + (1 : Int64)) + (xm / (500 : Int64)))), .second]) rfl ?_
    exact k
  obtain ⟨fs, hr, hrun, hended, hW, hsame⟩ := X0.leave (v := some (.long ((188 : Int64) * (v23 + v46)))) (fun h => by rw [Bd.returns] at h; cases h)
  have ev4 : (own_mb xp xu xm) = ((188 : Int64) * (v23 + v46)) := by
    rw [hv23, hv46, hv7]
    rfl
  refine ⟨_, _, pre3 _ ?_, hrun, hended, _, _, rfl, ?_, ⟨_, rfl⟩, hW, hsame.mono (by decide) (by decide)⟩
  · show Steps p.tables e below (s₁.setTop (mkF m 48 #[.val (.ref xthis), .val (.long xp), .second, .val (.long xu), .second, .val (.long xm), .second, .val (.long v7), .second, .val (.long v23), .second, .val (.long v46), .second] [])) _
    refine X0.ldc2Long hx hown (mvT hZ (hw _ (List.mem_of_getElem? (i := 29) rfl))) (g := (mkF m 48 #[.val (.ref xthis), .val (.long xp), .second, .val (.long xu), .second, .val (.long xm), .second, .val (.long v7), .second, .val (.long v23), .second, .val (.long v46), .second] [])) rfl (hb hby own_d3_48) _ ?_
    show Steps p.tables e below (s₁.setTop (mkF m 51 #[.val (.ref xthis), .val (.long xp), .second, .val (.long xu), .second, .val (.long xm), .second, .val (.long v7), .second, .val (.long v23), .second, .val (.long v46), .second] [(.long (188 : Int64))])) _
    refine XS.lload X0.here hx rfl (hb hby own_d3_51) rfl ?_
    show Steps p.tables e below (s₁.setTop (mkF m 53 #[.val (.ref xthis), .val (.long xp), .second, .val (.long xu), .second, .val (.long xm), .second, .val (.long v7), .second, .val (.long v23), .second, .val (.long v46), .second] [(.long v23), (.long (188 : Int64))])) _
    refine XS.lload X0.here hx rfl (hb hby own_d3_53) rfl ?_
    show Steps p.tables e below (s₁.setTop (mkF m 55 #[.val (.ref xthis), .val (.long xp), .second, .val (.long xu), .second, .val (.long xm), .second, .val (.long v7), .second, .val (.long v23), .second, .val (.long v46), .second] [(.long v46), (.long v23), (.long (188 : Int64))])) _
    refine XS.ladd X0.here hx rfl (hb hby own_d3_55) rfl ?_
    show Steps p.tables e below (s₁.setTop (mkF m 56 #[.val (.ref xthis), .val (.long xp), .second, .val (.long xu), .second, .val (.long xm), .second, .val (.long v7), .second, .val (.long v23), .second, .val (.long v46), .second] [(.long (v23 + v46)), (.long (188 : Int64))])) _
    refine XS.lmul X0.here hx rfl (hb hby own_d3_56) rfl ?_
    show Steps p.tables e below (s₁.setTop (mkF m 57 #[.val (.ref xthis), .val (.long xp), .second, .val (.long xu), .second, .val (.long xm), .second, .val (.long v7), .second, .val (.long v23), .second, .val (.long v46), .second] [(.long ((188 : Int64) * (v23 + v46)))])) _
    exact retJ X0 hx Bd.returns (hb hby own_d3_57) hr
  · show own_Q3 Z xthis xp xu xm h0 n0 _ s₁.heap _
    rw [e0]
    exact ⟨(by rw [ev4]), N0, rfl⟩
theorem own_pn1 : plainName "com/example/clotho/clotho/model/MpegTsMaxBytesPinLaw" = true := by first | (simp [plainName, overriddenIn]; done) | decide +kernel
theorem own_pd0 : parseMethodDescriptor "()V" = some ⟨[], none⟩ := by decide +kernel
theorem own_pd1 : parseMethodDescriptor "(JJJ)J" = some ⟨[.long, .long, .long], some .long⟩ := by decide +kernel
def own_Q0 (Z : State) (y1 : Int64) (y2 : Int32) (y3 : Int64) (y4 : Int64) (y5 : Int32) (y6 : Int32) (h0 : Heap) (n0 : Nat) (v : Option Value) (h : Heap) (L : List Loc) : Prop := v = some (.int (1 : Int32)) ∧ Fr n0 L
theorem own_ef0 (m : MethodId) (y1 : Int64) (y2 : Int32) (y3 : Int64) (y4 : Int64) (y5 : Int32) (y6 : Int32) : entryFrame m #[(.long y1), (.int y2), (.long y3), (.long y4), (.int y5), (.int y6)] maxLocals = mkF m 0 #[.val (.long y1), .second, .val (.int y2), .val (.long y3), .second, .val (.long y4), .second, .val (.int y5), .val (.int y6), .unset, .unset, .unset, .unset, .unset, .unset, .unset, .unset, .unset, .unset, .unset, .unset, .unset, .unset, .unset, .unset, .unset, .unset, .unset, .unset, .unset, .unset, .unset, .unset, .unset] [] := by first | (simp [entryFrame, mkF, argsToLocals, Value.category, maxLocals]; done) | rfl
set_option maxRecDepth 65536 in
set_option maxHeartbeats 40000000 in
theorem own_rm0 (l : Launch) (Z : State) (a0 : Array Value) (hw : ∀ d ∈ tables_1, d.before a0 Z = true) (ws : List Jvm.Cond) (y1 : Int64) (y2 : Int32) (y3 : Int64) (y4 : Int64) (y5 : Int32) (y6 : Int32) (h0 : Heap) (n0 : Nat) (Z0 : n0 ≤ h0.size)  :
    MetFree l x (head1 (Jvm.Cond.code x code maxLocals ret :: ws) room_1) (fun a U => a = #[(.long y1), (.int y2), (.long y3), (.long y4), (.int y5), (.int y6)] ∧ Z.Warmed39 U.vm ∧ U.heap = h0) (fun _ _ _ _ _ => True) (fun _ U o U' => ∃ v L, o = .returned v ∧ own_Q0 Z y1 y2 y3 y4 y5 y6 h0 n0 v U'.heap L ∧ FrameEnd U o U' L room_1.cells room_1.slots) := by
  refine MetFree.of_bodySF (plainFor_of_name own_pn1) hisR ?_
  intro p e s m args below meth c s₁ Bd hml0 hP hK
  obtain ⟨rfl, hZ, hh⟩ := hP
  have hx := Bd.exec
  have hby := Bd.bytes
  have hml : c.maxLocals = 34 := hml0
  have hown : s.vm.findClass "com/example/clotho/clotho/model/MpegTsMaxBytesPinLaw" = some m.cls := findClass_of_methodNamed Bd.named
  have hnm := (name_of_methodNamed Bd.named Bd.method).1
  have X0 : Stand p l e room_1 s m #[(.long y1), (.int y2), (.long y3), (.long y4), (.int y5), (.int y6)] below meth c s₁ [] 0 0 := Stand.of_body Bd
  have e0 : s₁.heap = h0 := by rw [← hh, Bd.state]; rfl
  have N0 := Fr.nil n0
  have pre0 : ∀ t, Steps p.tables e below (s₁.setTop (mkF m 0 #[.val (.long y1), .second, .val (.int y2), .val (.long y3), .second, .val (.long y4), .second, .val (.int y5), .val (.int y6), .unset, .unset, .unset, .unset, .unset, .unset, .unset, .unset, .unset, .unset, .unset, .unset, .unset, .unset, .unset, .unset, .unset, .unset, .unset, .unset, .unset, .unset, .unset, .unset, .unset] [])) t → Steps p.tables e below (s₁.setTop (entryFrame m #[(.long y1), (.int y2), (.long y3), (.long y4), (.int y5), (.int y6)] maxLocals)) t := fun t k => castTop (own_ef0 m y1 y2 y3 y4 y5 y6) k
  have K0 : Keep h0 h0 [] := Keep.refl _ _
  obtain ⟨v5, hv5⟩ : ∃ w : Int64, w = (y1 &&& (1099511627775 : Int64)) := ⟨_, rfl⟩
  have pre1 : ∀ t, Steps p.tables e below (s₁.setTop (mkF m 7 #[.val (.long y1), .second, .val (.int y2), .val (.long y3), .second, .val (.long y4), .second, .val (.int y5), .val (.int y6), .val (.long v5), .second, .unset, .unset, .unset, .unset, .unset, .unset, .unset, .unset, .unset, .unset, .unset, .unset, .unset, .unset, .unset, .unset, .unset, .unset, .unset, .unset, .unset, .unset, .unset] [])) t → Steps p.tables e below (s₁.setTop (entryFrame m #[(.long y1), (.int y2), (.long y3), (.long y4), (.int y5), (.int y6)] maxLocals)) t := by
    intro t k
    rw [hv5] at k
    refine pre0 _ ?_
    show Steps p.tables e below (s₁.setTop (mkF m 0 #[.val (.long y1), .second, .val (.int y2), .val (.long y3), .second, .val (.long y4), .second, .val (.int y5), .val (.int y6), .unset, .unset, .unset, .unset, .unset, .unset, .unset, .unset, .unset, .unset, .unset, .unset, .unset, .unset, .unset, .unset, .unset, .unset, .unset, .unset, .unset, .unset, .unset, .unset, .unset] [])) _
    refine XS.lloadN X0.here hx rfl (hb hby at_0) rfl ?_
    show Steps p.tables e below (s₁.setTop (mkF m 1 #[.val (.long y1), .second, .val (.int y2), .val (.long y3), .second, .val (.long y4), .second, .val (.int y5), .val (.int y6), .unset, .unset, .unset, .unset, .unset, .unset, .unset, .unset, .unset, .unset, .unset, .unset, .unset, .unset, .unset, .unset, .unset, .unset, .unset, .unset, .unset, .unset, .unset, .unset, .unset] [(.long y1)])) _
    refine X0.ldc2Long hx hown (mvT hZ (hw _ (List.mem_of_getElem? (i := 0) rfl))) (g := (mkF m 1 #[.val (.long y1), .second, .val (.int y2), .val (.long y3), .second, .val (.long y4), .second, .val (.int y5), .val (.int y6), .unset, .unset, .unset, .unset, .unset, .unset, .unset, .unset, .unset, .unset, .unset, .unset, .unset, .unset, .unset, .unset, .unset, .unset, .unset, .unset, .unset, .unset, .unset, .unset, .unset] [(.long y1)])) rfl (hb hby at_1) _ ?_
    show Steps p.tables e below (s₁.setTop (mkF m 4 #[.val (.long y1), .second, .val (.int y2), .val (.long y3), .second, .val (.long y4), .second, .val (.int y5), .val (.int y6), .unset, .unset, .unset, .unset, .unset, .unset, .unset, .unset, .unset, .unset, .unset, .unset, .unset, .unset, .unset, .unset, .unset, .unset, .unset, .unset, .unset, .unset, .unset, .unset, .unset] [(.long (1099511627775 : Int64)), (.long y1)])) _
    refine XS.land X0.here hx rfl (hb hby at_4) rfl ?_
    show Steps p.tables e below (s₁.setTop (mkF m 5 #[.val (.long y1), .second, .val (.int y2), .val (.long y3), .second, .val (.long y4), .second, .val (.int y5), .val (.int y6), .unset, .unset, .unset, .unset, .unset, .unset, .unset, .unset, .unset, .unset, .unset, .unset, .unset, .unset, .unset, .unset, .unset, .unset, .unset, .unset, .unset, .unset, .unset, .unset, .unset] [(.long (y1 &&& (1099511627775 : Int64)))])) _
    refine XS.lstore X0.here hx rfl (hb hby at_5) rfl (l' := #[.val (.long y1), .second, .val (.int y2), .val (.long y3), .second, .val (.long y4), .second, .val (.int y5), .val (.int y6), .val (.long (y1 &&& (1099511627775 : Int64))), .second, .unset, .unset, .unset, .unset, .unset, .unset, .unset, .unset, .unset, .unset, .unset, .unset, .unset, .unset, .unset, .unset, .unset, .unset, .unset, .unset, .unset, .unset, .unset]) rfl ?_
    exact k
  obtain ⟨v16, hv16⟩ : ∃ w : Int64, w = (((y2 &&& (2147483647 : Int32)) % (184 : Int32)).toInt64) := ⟨_, rfl⟩
  have pre2 : ∀ t, Steps p.tables e below (s₁.setTop (mkF m 18 #[.val (.long y1), .second, .val (.int y2), .val (.long y3), .second, .val (.long y4), .second, .val (.int y5), .val (.int y6), .val (.long v5), .second, .val (.long v16), .second, .unset, .unset, .unset, .unset, .unset, .unset, .unset, .unset, .unset, .unset, .unset, .unset, .unset, .unset, .unset, .unset, .unset, .unset, .unset, .unset, .unset] [])) t → Steps p.tables e below (s₁.setTop (entryFrame m #[(.long y1), (.int y2), (.long y3), (.long y4), (.int y5), (.int y6)] maxLocals)) t := by
    intro t k
    rw [hv16] at k
    refine pre1 _ ?_
    show Steps p.tables e below (s₁.setTop (mkF m 7 #[.val (.long y1), .second, .val (.int y2), .val (.long y3), .second, .val (.long y4), .second, .val (.int y5), .val (.int y6), .val (.long v5), .second, .unset, .unset, .unset, .unset, .unset, .unset, .unset, .unset, .unset, .unset, .unset, .unset, .unset, .unset, .unset, .unset, .unset, .unset, .unset, .unset, .unset, .unset, .unset] [])) _
    refine XS.iloadN X0.here hx rfl (hb hby at_7) rfl ?_
    show Steps p.tables e below (s₁.setTop (mkF m 8 #[.val (.long y1), .second, .val (.int y2), .val (.long y3), .second, .val (.long y4), .second, .val (.int y5), .val (.int y6), .val (.long v5), .second, .unset, .unset, .unset, .unset, .unset, .unset, .unset, .unset, .unset, .unset, .unset, .unset, .unset, .unset, .unset, .unset, .unset, .unset, .unset, .unset, .unset, .unset, .unset] [(.int y2)])) _
    refine X0.ldcInt hx hown (mvT hZ (hw _ (List.mem_of_getElem? (i := 1) rfl))) (g := (mkF m 8 #[.val (.long y1), .second, .val (.int y2), .val (.long y3), .second, .val (.long y4), .second, .val (.int y5), .val (.int y6), .val (.long v5), .second, .unset, .unset, .unset, .unset, .unset, .unset, .unset, .unset, .unset, .unset, .unset, .unset, .unset, .unset, .unset, .unset, .unset, .unset, .unset, .unset, .unset, .unset, .unset] [(.int y2)])) rfl (hb hby at_8) _ ?_
    show Steps p.tables e below (s₁.setTop (mkF m 10 #[.val (.long y1), .second, .val (.int y2), .val (.long y3), .second, .val (.long y4), .second, .val (.int y5), .val (.int y6), .val (.long v5), .second, .unset, .unset, .unset, .unset, .unset, .unset, .unset, .unset, .unset, .unset, .unset, .unset, .unset, .unset, .unset, .unset, .unset, .unset, .unset, .unset, .unset, .unset, .unset] [(.int (2147483647 : Int32)), (.int y2)])) _
    refine XS.iand X0.here hx rfl (hb hby at_10) rfl ?_
    show Steps p.tables e below (s₁.setTop (mkF m 11 #[.val (.long y1), .second, .val (.int y2), .val (.long y3), .second, .val (.long y4), .second, .val (.int y5), .val (.int y6), .val (.long v5), .second, .unset, .unset, .unset, .unset, .unset, .unset, .unset, .unset, .unset, .unset, .unset, .unset, .unset, .unset, .unset, .unset, .unset, .unset, .unset, .unset, .unset, .unset, .unset] [(.int (y2 &&& (2147483647 : Int32)))])) _
    refine XS.sipush X0.here hx rfl (hb hby at_11) ?_
    show Steps p.tables e below (s₁.setTop (mkF m 14 #[.val (.long y1), .second, .val (.int y2), .val (.long y3), .second, .val (.long y4), .second, .val (.int y5), .val (.int y6), .val (.long v5), .second, .unset, .unset, .unset, .unset, .unset, .unset, .unset, .unset, .unset, .unset, .unset, .unset, .unset, .unset, .unset, .unset, .unset, .unset, .unset, .unset, .unset, .unset, .unset] [(.int (184 : Int32)), (.int (y2 &&& (2147483647 : Int32)))])) _
    refine iremM X0 hx rfl (hb hby at_14) rfl (by decide) ?_
    show Steps p.tables e below (s₁.setTop (mkF m 15 #[.val (.long y1), .second, .val (.int y2), .val (.long y3), .second, .val (.long y4), .second, .val (.int y5), .val (.int y6), .val (.long v5), .second, .unset, .unset, .unset, .unset, .unset, .unset, .unset, .unset, .unset, .unset, .unset, .unset, .unset, .unset, .unset, .unset, .unset, .unset, .unset, .unset, .unset, .unset, .unset] [(.int ((y2 &&& (2147483647 : Int32)) % (184 : Int32)))])) _
    refine XS.i2l X0.here hx rfl (hb hby at_15) rfl ?_
    show Steps p.tables e below (s₁.setTop (mkF m 16 #[.val (.long y1), .second, .val (.int y2), .val (.long y3), .second, .val (.long y4), .second, .val (.int y5), .val (.int y6), .val (.long v5), .second, .unset, .unset, .unset, .unset, .unset, .unset, .unset, .unset, .unset, .unset, .unset, .unset, .unset, .unset, .unset, .unset, .unset, .unset, .unset, .unset, .unset, .unset, .unset] [(.long (((y2 &&& (2147483647 : Int32)) % (184 : Int32)).toInt64))])) _
    refine XS.lstore X0.here hx rfl (hb hby at_16) rfl (l' := #[.val (.long y1), .second, .val (.int y2), .val (.long y3), .second, .val (.long y4), .second, .val (.int y5), .val (.int y6), .val (.long v5), .second, .val (.long (((y2 &&& (2147483647 : Int32)) % (184 : Int32)).toInt64)), .second, .unset, .unset, .unset, .unset, .unset, .unset, .unset, .unset, .unset, .unset, .unset, .unset, .unset, .unset, .unset, .unset, .unset, .unset, .unset, .unset, .unset]) rfl ?_
    exact k
  obtain ⟨v23, hv23⟩ : ∃ w : Int64, w = (y3 &&& (1099511627775 : Int64)) := ⟨_, rfl⟩
  have pre3 : ∀ t, Steps p.tables e below (s₁.setTop (mkF m 25 #[.val (.long y1), .second, .val (.int y2), .val (.long y3), .second, .val (.long y4), .second, .val (.int y5), .val (.int y6), .val (.long v5), .second, .val (.long v16), .second, .val (.long v23), .second, .unset, .unset, .unset, .unset, .unset, .unset, .unset, .unset, .unset, .unset, .unset, .unset, .unset, .unset, .unset, .unset, .unset, .unset, .unset] [])) t → Steps p.tables e below (s₁.setTop (entryFrame m #[(.long y1), (.int y2), (.long y3), (.long y4), (.int y5), (.int y6)] maxLocals)) t := by
    intro t k
    rw [hv23] at k
    refine pre2 _ ?_
    show Steps p.tables e below (s₁.setTop (mkF m 18 #[.val (.long y1), .second, .val (.int y2), .val (.long y3), .second, .val (.long y4), .second, .val (.int y5), .val (.int y6), .val (.long v5), .second, .val (.long v16), .second, .unset, .unset, .unset, .unset, .unset, .unset, .unset, .unset, .unset, .unset, .unset, .unset, .unset, .unset, .unset, .unset, .unset, .unset, .unset, .unset, .unset] [])) _
    refine XS.lloadN X0.here hx rfl (hb hby at_18) rfl ?_
    show Steps p.tables e below (s₁.setTop (mkF m 19 #[.val (.long y1), .second, .val (.int y2), .val (.long y3), .second, .val (.long y4), .second, .val (.int y5), .val (.int y6), .val (.long v5), .second, .val (.long v16), .second, .unset, .unset, .unset, .unset, .unset, .unset, .unset, .unset, .unset, .unset, .unset, .unset, .unset, .unset, .unset, .unset, .unset, .unset, .unset, .unset, .unset] [(.long y3)])) _
    refine X0.ldc2Long hx hown (mvT hZ (hw _ (List.mem_of_getElem? (i := 0) rfl))) (g := (mkF m 19 #[.val (.long y1), .second, .val (.int y2), .val (.long y3), .second, .val (.long y4), .second, .val (.int y5), .val (.int y6), .val (.long v5), .second, .val (.long v16), .second, .unset, .unset, .unset, .unset, .unset, .unset, .unset, .unset, .unset, .unset, .unset, .unset, .unset, .unset, .unset, .unset, .unset, .unset, .unset, .unset, .unset] [(.long y3)])) rfl (hb hby at_19) _ ?_
    show Steps p.tables e below (s₁.setTop (mkF m 22 #[.val (.long y1), .second, .val (.int y2), .val (.long y3), .second, .val (.long y4), .second, .val (.int y5), .val (.int y6), .val (.long v5), .second, .val (.long v16), .second, .unset, .unset, .unset, .unset, .unset, .unset, .unset, .unset, .unset, .unset, .unset, .unset, .unset, .unset, .unset, .unset, .unset, .unset, .unset, .unset, .unset] [(.long (1099511627775 : Int64)), (.long y3)])) _
    refine XS.land X0.here hx rfl (hb hby at_22) rfl ?_
    show Steps p.tables e below (s₁.setTop (mkF m 23 #[.val (.long y1), .second, .val (.int y2), .val (.long y3), .second, .val (.long y4), .second, .val (.int y5), .val (.int y6), .val (.long v5), .second, .val (.long v16), .second, .unset, .unset, .unset, .unset, .unset, .unset, .unset, .unset, .unset, .unset, .unset, .unset, .unset, .unset, .unset, .unset, .unset, .unset, .unset, .unset, .unset] [(.long (y3 &&& (1099511627775 : Int64)))])) _
    refine XS.lstore X0.here hx rfl (hb hby at_23) rfl (l' := #[.val (.long y1), .second, .val (.int y2), .val (.long y3), .second, .val (.long y4), .second, .val (.int y5), .val (.int y6), .val (.long v5), .second, .val (.long v16), .second, .val (.long (y3 &&& (1099511627775 : Int64))), .second, .unset, .unset, .unset, .unset, .unset, .unset, .unset, .unset, .unset, .unset, .unset, .unset, .unset, .unset, .unset, .unset, .unset, .unset, .unset]) rfl ?_
    exact k
  obtain ⟨v31, hv31⟩ : ∃ w : Int64, w = (y4 &&& (1099511627775 : Int64)) := ⟨_, rfl⟩
  have pre4 : ∀ t, Steps p.tables e below (s₁.setTop (mkF m 33 #[.val (.long y1), .second, .val (.int y2), .val (.long y3), .second, .val (.long y4), .second, .val (.int y5), .val (.int y6), .val (.long v5), .second, .val (.long v16), .second, .val (.long v23), .second, .val (.long v31), .second, .unset, .unset, .unset, .unset, .unset, .unset, .unset, .unset, .unset, .unset, .unset, .unset, .unset, .unset, .unset, .unset, .unset] [])) t → Steps p.tables e below (s₁.setTop (entryFrame m #[(.long y1), (.int y2), (.long y3), (.long y4), (.int y5), (.int y6)] maxLocals)) t := by
    intro t k
    rw [hv31] at k
    refine pre3 _ ?_
    show Steps p.tables e below (s₁.setTop (mkF m 25 #[.val (.long y1), .second, .val (.int y2), .val (.long y3), .second, .val (.long y4), .second, .val (.int y5), .val (.int y6), .val (.long v5), .second, .val (.long v16), .second, .val (.long v23), .second, .unset, .unset, .unset, .unset, .unset, .unset, .unset, .unset, .unset, .unset, .unset, .unset, .unset, .unset, .unset, .unset, .unset, .unset, .unset] [])) _
    refine XS.lload X0.here hx rfl (hb hby at_25) rfl ?_
    show Steps p.tables e below (s₁.setTop (mkF m 27 #[.val (.long y1), .second, .val (.int y2), .val (.long y3), .second, .val (.long y4), .second, .val (.int y5), .val (.int y6), .val (.long v5), .second, .val (.long v16), .second, .val (.long v23), .second, .unset, .unset, .unset, .unset, .unset, .unset, .unset, .unset, .unset, .unset, .unset, .unset, .unset, .unset, .unset, .unset, .unset, .unset, .unset] [(.long y4)])) _
    refine X0.ldc2Long hx hown (mvT hZ (hw _ (List.mem_of_getElem? (i := 0) rfl))) (g := (mkF m 27 #[.val (.long y1), .second, .val (.int y2), .val (.long y3), .second, .val (.long y4), .second, .val (.int y5), .val (.int y6), .val (.long v5), .second, .val (.long v16), .second, .val (.long v23), .second, .unset, .unset, .unset, .unset, .unset, .unset, .unset, .unset, .unset, .unset, .unset, .unset, .unset, .unset, .unset, .unset, .unset, .unset, .unset] [(.long y4)])) rfl (hb hby at_27) _ ?_
    show Steps p.tables e below (s₁.setTop (mkF m 30 #[.val (.long y1), .second, .val (.int y2), .val (.long y3), .second, .val (.long y4), .second, .val (.int y5), .val (.int y6), .val (.long v5), .second, .val (.long v16), .second, .val (.long v23), .second, .unset, .unset, .unset, .unset, .unset, .unset, .unset, .unset, .unset, .unset, .unset, .unset, .unset, .unset, .unset, .unset, .unset, .unset, .unset] [(.long (1099511627775 : Int64)), (.long y4)])) _
    refine XS.land X0.here hx rfl (hb hby at_30) rfl ?_
    show Steps p.tables e below (s₁.setTop (mkF m 31 #[.val (.long y1), .second, .val (.int y2), .val (.long y3), .second, .val (.long y4), .second, .val (.int y5), .val (.int y6), .val (.long v5), .second, .val (.long v16), .second, .val (.long v23), .second, .unset, .unset, .unset, .unset, .unset, .unset, .unset, .unset, .unset, .unset, .unset, .unset, .unset, .unset, .unset, .unset, .unset, .unset, .unset] [(.long (y4 &&& (1099511627775 : Int64)))])) _
    refine XS.lstore X0.here hx rfl (hb hby at_31) rfl (l' := #[.val (.long y1), .second, .val (.int y2), .val (.long y3), .second, .val (.long y4), .second, .val (.int y5), .val (.int y6), .val (.long v5), .second, .val (.long v16), .second, .val (.long v23), .second, .val (.long (y4 &&& (1099511627775 : Int64))), .second, .unset, .unset, .unset, .unset, .unset, .unset, .unset, .unset, .unset, .unset, .unset, .unset, .unset, .unset, .unset, .unset, .unset]) rfl ?_
    exact k
  obtain ⟨v41, hv41⟩ : ∃ w : Int64, w = (((y5 &&& (2147483647 : Int32)) % (5 : Int32)).toInt64) := ⟨_, rfl⟩
  have pre5 : ∀ t, Steps p.tables e below (s₁.setTop (mkF m 43 #[.val (.long y1), .second, .val (.int y2), .val (.long y3), .second, .val (.long y4), .second, .val (.int y5), .val (.int y6), .val (.long v5), .second, .val (.long v16), .second, .val (.long v23), .second, .val (.long v31), .second, .val (.long v41), .second, .unset, .unset, .unset, .unset, .unset, .unset, .unset, .unset, .unset, .unset, .unset, .unset, .unset, .unset, .unset] [])) t → Steps p.tables e below (s₁.setTop (entryFrame m #[(.long y1), (.int y2), (.long y3), (.long y4), (.int y5), (.int y6)] maxLocals)) t := by
    intro t k
    rw [hv41] at k
    refine pre4 _ ?_
    show Steps p.tables e below (s₁.setTop (mkF m 33 #[.val (.long y1), .second, .val (.int y2), .val (.long y3), .second, .val (.long y4), .second, .val (.int y5), .val (.int y6), .val (.long v5), .second, .val (.long v16), .second, .val (.long v23), .second, .val (.long v31), .second, .unset, .unset, .unset, .unset, .unset, .unset, .unset, .unset, .unset, .unset, .unset, .unset, .unset, .unset, .unset, .unset, .unset] [])) _
    refine XS.iload X0.here hx rfl (hb hby at_33) rfl ?_
    show Steps p.tables e below (s₁.setTop (mkF m 35 #[.val (.long y1), .second, .val (.int y2), .val (.long y3), .second, .val (.long y4), .second, .val (.int y5), .val (.int y6), .val (.long v5), .second, .val (.long v16), .second, .val (.long v23), .second, .val (.long v31), .second, .unset, .unset, .unset, .unset, .unset, .unset, .unset, .unset, .unset, .unset, .unset, .unset, .unset, .unset, .unset, .unset, .unset] [(.int y5)])) _
    refine X0.ldcInt hx hown (mvT hZ (hw _ (List.mem_of_getElem? (i := 1) rfl))) (g := (mkF m 35 #[.val (.long y1), .second, .val (.int y2), .val (.long y3), .second, .val (.long y4), .second, .val (.int y5), .val (.int y6), .val (.long v5), .second, .val (.long v16), .second, .val (.long v23), .second, .val (.long v31), .second, .unset, .unset, .unset, .unset, .unset, .unset, .unset, .unset, .unset, .unset, .unset, .unset, .unset, .unset, .unset, .unset, .unset] [(.int y5)])) rfl (hb hby at_35) _ ?_
    show Steps p.tables e below (s₁.setTop (mkF m 37 #[.val (.long y1), .second, .val (.int y2), .val (.long y3), .second, .val (.long y4), .second, .val (.int y5), .val (.int y6), .val (.long v5), .second, .val (.long v16), .second, .val (.long v23), .second, .val (.long v31), .second, .unset, .unset, .unset, .unset, .unset, .unset, .unset, .unset, .unset, .unset, .unset, .unset, .unset, .unset, .unset, .unset, .unset] [(.int (2147483647 : Int32)), (.int y5)])) _
    refine XS.iand X0.here hx rfl (hb hby at_37) rfl ?_
    show Steps p.tables e below (s₁.setTop (mkF m 38 #[.val (.long y1), .second, .val (.int y2), .val (.long y3), .second, .val (.long y4), .second, .val (.int y5), .val (.int y6), .val (.long v5), .second, .val (.long v16), .second, .val (.long v23), .second, .val (.long v31), .second, .unset, .unset, .unset, .unset, .unset, .unset, .unset, .unset, .unset, .unset, .unset, .unset, .unset, .unset, .unset, .unset, .unset] [(.int (y5 &&& (2147483647 : Int32)))])) _
    refine XS.iconst X0.here hx rfl (hb hby at_38) ?_
    show Steps p.tables e below (s₁.setTop (mkF m 39 #[.val (.long y1), .second, .val (.int y2), .val (.long y3), .second, .val (.long y4), .second, .val (.int y5), .val (.int y6), .val (.long v5), .second, .val (.long v16), .second, .val (.long v23), .second, .val (.long v31), .second, .unset, .unset, .unset, .unset, .unset, .unset, .unset, .unset, .unset, .unset, .unset, .unset, .unset, .unset, .unset, .unset, .unset] [(.int (5 : Int32)), (.int (y5 &&& (2147483647 : Int32)))])) _
    refine iremM X0 hx rfl (hb hby at_39) rfl (by decide) ?_
    show Steps p.tables e below (s₁.setTop (mkF m 40 #[.val (.long y1), .second, .val (.int y2), .val (.long y3), .second, .val (.long y4), .second, .val (.int y5), .val (.int y6), .val (.long v5), .second, .val (.long v16), .second, .val (.long v23), .second, .val (.long v31), .second, .unset, .unset, .unset, .unset, .unset, .unset, .unset, .unset, .unset, .unset, .unset, .unset, .unset, .unset, .unset, .unset, .unset] [(.int ((y5 &&& (2147483647 : Int32)) % (5 : Int32)))])) _
    refine XS.i2l X0.here hx rfl (hb hby at_40) rfl ?_
    show Steps p.tables e below (s₁.setTop (mkF m 41 #[.val (.long y1), .second, .val (.int y2), .val (.long y3), .second, .val (.long y4), .second, .val (.int y5), .val (.int y6), .val (.long v5), .second, .val (.long v16), .second, .val (.long v23), .second, .val (.long v31), .second, .unset, .unset, .unset, .unset, .unset, .unset, .unset, .unset, .unset, .unset, .unset, .unset, .unset, .unset, .unset, .unset, .unset] [(.long (((y5 &&& (2147483647 : Int32)) % (5 : Int32)).toInt64))])) _
    refine XS.lstore X0.here hx rfl (hb hby at_41) rfl (l' := #[.val (.long y1), .second, .val (.int y2), .val (.long y3), .second, .val (.long y4), .second, .val (.int y5), .val (.int y6), .val (.long v5), .second, .val (.long v16), .second, .val (.long v23), .second, .val (.long v31), .second, .val (.long (((y5 &&& (2147483647 : Int32)) % (5 : Int32)).toInt64)), .second, .unset, .unset, .unset, .unset, .unset, .unset, .unset, .unset, .unset, .unset, .unset, .unset, .unset, .unset, .unset]) rfl ?_
    exact k
  obtain ⟨v52, hv52⟩ : ∃ w : Int64, w = (((y6 &&& (2147483647 : Int32)) % (100 : Int32)).toInt64) := ⟨_, rfl⟩
  have pre6 : ∀ t, Steps p.tables e below (s₁.setTop (mkF m 54 #[.val (.long y1), .second, .val (.int y2), .val (.long y3), .second, .val (.long y4), .second, .val (.int y5), .val (.int y6), .val (.long v5), .second, .val (.long v16), .second, .val (.long v23), .second, .val (.long v31), .second, .val (.long v41), .second, .val (.long v52), .second, .unset, .unset, .unset, .unset, .unset, .unset, .unset, .unset, .unset, .unset, .unset, .unset, .unset] [])) t → Steps p.tables e below (s₁.setTop (entryFrame m #[(.long y1), (.int y2), (.long y3), (.long y4), (.int y5), (.int y6)] maxLocals)) t := by
    intro t k
    rw [hv52] at k
    refine pre5 _ ?_
    show Steps p.tables e below (s₁.setTop (mkF m 43 #[.val (.long y1), .second, .val (.int y2), .val (.long y3), .second, .val (.long y4), .second, .val (.int y5), .val (.int y6), .val (.long v5), .second, .val (.long v16), .second, .val (.long v23), .second, .val (.long v31), .second, .val (.long v41), .second, .unset, .unset, .unset, .unset, .unset, .unset, .unset, .unset, .unset, .unset, .unset, .unset, .unset, .unset, .unset] [])) _
    refine XS.iload X0.here hx rfl (hb hby at_43) rfl ?_
    show Steps p.tables e below (s₁.setTop (mkF m 45 #[.val (.long y1), .second, .val (.int y2), .val (.long y3), .second, .val (.long y4), .second, .val (.int y5), .val (.int y6), .val (.long v5), .second, .val (.long v16), .second, .val (.long v23), .second, .val (.long v31), .second, .val (.long v41), .second, .unset, .unset, .unset, .unset, .unset, .unset, .unset, .unset, .unset, .unset, .unset, .unset, .unset, .unset, .unset] [(.int y6)])) _
    refine X0.ldcInt hx hown (mvT hZ (hw _ (List.mem_of_getElem? (i := 1) rfl))) (g := (mkF m 45 #[.val (.long y1), .second, .val (.int y2), .val (.long y3), .second, .val (.long y4), .second, .val (.int y5), .val (.int y6), .val (.long v5), .second, .val (.long v16), .second, .val (.long v23), .second, .val (.long v31), .second, .val (.long v41), .second, .unset, .unset, .unset, .unset, .unset, .unset, .unset, .unset, .unset, .unset, .unset, .unset, .unset, .unset, .unset] [(.int y6)])) rfl (hb hby at_45) _ ?_
    show Steps p.tables e below (s₁.setTop (mkF m 47 #[.val (.long y1), .second, .val (.int y2), .val (.long y3), .second, .val (.long y4), .second, .val (.int y5), .val (.int y6), .val (.long v5), .second, .val (.long v16), .second, .val (.long v23), .second, .val (.long v31), .second, .val (.long v41), .second, .unset, .unset, .unset, .unset, .unset, .unset, .unset, .unset, .unset, .unset, .unset, .unset, .unset, .unset, .unset] [(.int (2147483647 : Int32)), (.int y6)])) _
    refine XS.iand X0.here hx rfl (hb hby at_47) rfl ?_
    show Steps p.tables e below (s₁.setTop (mkF m 48 #[.val (.long y1), .second, .val (.int y2), .val (.long y3), .second, .val (.long y4), .second, .val (.int y5), .val (.int y6), .val (.long v5), .second, .val (.long v16), .second, .val (.long v23), .second, .val (.long v31), .second, .val (.long v41), .second, .unset, .unset, .unset, .unset, .unset, .unset, .unset, .unset, .unset, .unset, .unset, .unset, .unset, .unset, .unset] [(.int (y6 &&& (2147483647 : Int32)))])) _
    refine XS.bipush X0.here hx rfl (hb hby at_48) ?_
    show Steps p.tables e below (s₁.setTop (mkF m 50 #[.val (.long y1), .second, .val (.int y2), .val (.long y3), .second, .val (.long y4), .second, .val (.int y5), .val (.int y6), .val (.long v5), .second, .val (.long v16), .second, .val (.long v23), .second, .val (.long v31), .second, .val (.long v41), .second, .unset, .unset, .unset, .unset, .unset, .unset, .unset, .unset, .unset, .unset, .unset, .unset, .unset, .unset, .unset] [(.int (100 : Int32)), (.int (y6 &&& (2147483647 : Int32)))])) _
    refine iremM X0 hx rfl (hb hby at_50) rfl (by decide) ?_
    show Steps p.tables e below (s₁.setTop (mkF m 51 #[.val (.long y1), .second, .val (.int y2), .val (.long y3), .second, .val (.long y4), .second, .val (.int y5), .val (.int y6), .val (.long v5), .second, .val (.long v16), .second, .val (.long v23), .second, .val (.long v31), .second, .val (.long v41), .second, .unset, .unset, .unset, .unset, .unset, .unset, .unset, .unset, .unset, .unset, .unset, .unset, .unset, .unset, .unset] [(.int ((y6 &&& (2147483647 : Int32)) % (100 : Int32)))])) _
    refine XS.i2l X0.here hx rfl (hb hby at_51) rfl ?_
    show Steps p.tables e below (s₁.setTop (mkF m 52 #[.val (.long y1), .second, .val (.int y2), .val (.long y3), .second, .val (.long y4), .second, .val (.int y5), .val (.int y6), .val (.long v5), .second, .val (.long v16), .second, .val (.long v23), .second, .val (.long v31), .second, .val (.long v41), .second, .unset, .unset, .unset, .unset, .unset, .unset, .unset, .unset, .unset, .unset, .unset, .unset, .unset, .unset, .unset] [(.long (((y6 &&& (2147483647 : Int32)) % (100 : Int32)).toInt64))])) _
    refine XS.lstore X0.here hx rfl (hb hby at_52) rfl (l' := #[.val (.long y1), .second, .val (.int y2), .val (.long y3), .second, .val (.long y4), .second, .val (.int y5), .val (.int y6), .val (.long v5), .second, .val (.long v16), .second, .val (.long v23), .second, .val (.long v31), .second, .val (.long v41), .second, .val (.long (((y6 &&& (2147483647 : Int32)) % (100 : Int32)).toInt64)), .second, .unset, .unset, .unset, .unset, .unset, .unset, .unset, .unset, .unset, .unset, .unset, .unset, .unset]) rfl ?_
    exact k
  obtain ⟨v63, hv63⟩ : ∃ w : Int64, w = (((184 : Int64) * v5) + v16) := ⟨_, rfl⟩
  have pre7 : ∀ t, Steps p.tables e below (s₁.setTop (mkF m 65 #[.val (.long y1), .second, .val (.int y2), .val (.long y3), .second, .val (.long y4), .second, .val (.int y5), .val (.int y6), .val (.long v5), .second, .val (.long v16), .second, .val (.long v23), .second, .val (.long v31), .second, .val (.long v41), .second, .val (.long v52), .second, .val (.long v63), .second, .unset, .unset, .unset, .unset, .unset, .unset, .unset, .unset, .unset, .unset, .unset] [])) t → Steps p.tables e below (s₁.setTop (entryFrame m #[(.long y1), (.int y2), (.long y3), (.long y4), (.int y5), (.int y6)] maxLocals)) t := by
    intro t k
    rw [hv63] at k
    refine pre6 _ ?_
    show Steps p.tables e below (s₁.setTop (mkF m 54 #[.val (.long y1), .second, .val (.int y2), .val (.long y3), .second, .val (.long y4), .second, .val (.int y5), .val (.int y6), .val (.long v5), .second, .val (.long v16), .second, .val (.long v23), .second, .val (.long v31), .second, .val (.long v41), .second, .val (.long v52), .second, .unset, .unset, .unset, .unset, .unset, .unset, .unset, .unset, .unset, .unset, .unset, .unset, .unset] [])) _
    refine X0.ldc2Long hx hown (mvT hZ (hw _ (List.mem_of_getElem? (i := 2) rfl))) (g := (mkF m 54 #[.val (.long y1), .second, .val (.int y2), .val (.long y3), .second, .val (.long y4), .second, .val (.int y5), .val (.int y6), .val (.long v5), .second, .val (.long v16), .second, .val (.long v23), .second, .val (.long v31), .second, .val (.long v41), .second, .val (.long v52), .second, .unset, .unset, .unset, .unset, .unset, .unset, .unset, .unset, .unset, .unset, .unset, .unset, .unset] [])) rfl (hb hby at_54) _ ?_
    show Steps p.tables e below (s₁.setTop (mkF m 57 #[.val (.long y1), .second, .val (.int y2), .val (.long y3), .second, .val (.long y4), .second, .val (.int y5), .val (.int y6), .val (.long v5), .second, .val (.long v16), .second, .val (.long v23), .second, .val (.long v31), .second, .val (.long v41), .second, .val (.long v52), .second, .unset, .unset, .unset, .unset, .unset, .unset, .unset, .unset, .unset, .unset, .unset, .unset, .unset] [(.long (184 : Int64))])) _
    refine XS.lload X0.here hx rfl (hb hby at_57) rfl ?_
    show Steps p.tables e below (s₁.setTop (mkF m 59 #[.val (.long y1), .second, .val (.int y2), .val (.long y3), .second, .val (.long y4), .second, .val (.int y5), .val (.int y6), .val (.long v5), .second, .val (.long v16), .second, .val (.long v23), .second, .val (.long v31), .second, .val (.long v41), .second, .val (.long v52), .second, .unset, .unset, .unset, .unset, .unset, .unset, .unset, .unset, .unset, .unset, .unset, .unset, .unset] [(.long v5), (.long (184 : Int64))])) _
    refine XS.lmul X0.here hx rfl (hb hby at_59) rfl ?_
    show Steps p.tables e below (s₁.setTop (mkF m 60 #[.val (.long y1), .second, .val (.int y2), .val (.long y3), .second, .val (.long y4), .second, .val (.int y5), .val (.int y6), .val (.long v5), .second, .val (.long v16), .second, .val (.long v23), .second, .val (.long v31), .second, .val (.long v41), .second, .val (.long v52), .second, .unset, .unset, .unset, .unset, .unset, .unset, .unset, .unset, .unset, .unset, .unset, .unset, .unset] [(.long ((184 : Int64) * v5))])) _
    refine XS.lload X0.here hx rfl (hb hby at_60) rfl ?_
    show Steps p.tables e below (s₁.setTop (mkF m 62 #[.val (.long y1), .second, .val (.int y2), .val (.long y3), .second, .val (.long y4), .second, .val (.int y5), .val (.int y6), .val (.long v5), .second, .val (.long v16), .second, .val (.long v23), .second, .val (.long v31), .second, .val (.long v41), .second, .val (.long v52), .second, .unset, .unset, .unset, .unset, .unset, .unset, .unset, .unset, .unset, .unset, .unset, .unset, .unset] [(.long v16), (.long ((184 : Int64) * v5))])) _
    refine XS.ladd X0.here hx rfl (hb hby at_62) rfl ?_
    show Steps p.tables e below (s₁.setTop (mkF m 63 #[.val (.long y1), .second, .val (.int y2), .val (.long y3), .second, .val (.long y4), .second, .val (.int y5), .val (.int y6), .val (.long v5), .second, .val (.long v16), .second, .val (.long v23), .second, .val (.long v31), .second, .val (.long v41), .second, .val (.long v52), .second, .unset, .unset, .unset, .unset, .unset, .unset, .unset, .unset, .unset, .unset, .unset, .unset, .unset] [(.long (((184 : Int64) * v5) + v16))])) _
    refine XS.lstore X0.here hx rfl (hb hby at_63) rfl (l' := #[.val (.long y1), .second, .val (.int y2), .val (.long y3), .second, .val (.long y4), .second, .val (.int y5), .val (.int y6), .val (.long v5), .second, .val (.long v16), .second, .val (.long v23), .second, .val (.long v31), .second, .val (.long v41), .second, .val (.long v52), .second, .val (.long (((184 : Int64) * v5) + v16)), .second, .unset, .unset, .unset, .unset, .unset, .unset, .unset, .unset, .unset, .unset, .unset]) rfl ?_
    exact k
  obtain ⟨v74, hv74⟩ : ∃ w : Int64, w = (v63 - ((33 : Int64) * v23)) := ⟨_, rfl⟩
  have pre8 : ∀ t, Steps p.tables e below (s₁.setTop (mkF m 76 #[.val (.long y1), .second, .val (.int y2), .val (.long y3), .second, .val (.long y4), .second, .val (.int y5), .val (.int y6), .val (.long v5), .second, .val (.long v16), .second, .val (.long v23), .second, .val (.long v31), .second, .val (.long v41), .second, .val (.long v52), .second, .val (.long v63), .second, .val (.long v74), .second, .unset, .unset, .unset, .unset, .unset, .unset, .unset, .unset, .unset] [])) t → Steps p.tables e below (s₁.setTop (entryFrame m #[(.long y1), (.int y2), (.long y3), (.long y4), (.int y5), (.int y6)] maxLocals)) t := by
    intro t k
    rw [hv74] at k
    refine pre7 _ ?_
    show Steps p.tables e below (s₁.setTop (mkF m 65 #[.val (.long y1), .second, .val (.int y2), .val (.long y3), .second, .val (.long y4), .second, .val (.int y5), .val (.int y6), .val (.long v5), .second, .val (.long v16), .second, .val (.long v23), .second, .val (.long v31), .second, .val (.long v41), .second, .val (.long v52), .second, .val (.long v63), .second, .unset, .unset, .unset, .unset, .unset, .unset, .unset, .unset, .unset, .unset, .unset] [])) _
    refine XS.lload X0.here hx rfl (hb hby at_65) rfl ?_
    show Steps p.tables e below (s₁.setTop (mkF m 67 #[.val (.long y1), .second, .val (.int y2), .val (.long y3), .second, .val (.long y4), .second, .val (.int y5), .val (.int y6), .val (.long v5), .second, .val (.long v16), .second, .val (.long v23), .second, .val (.long v31), .second, .val (.long v41), .second, .val (.long v52), .second, .val (.long v63), .second, .unset, .unset, .unset, .unset, .unset, .unset, .unset, .unset, .unset, .unset, .unset] [(.long v63)])) _
    refine X0.ldc2Long hx hown (mvT hZ (hw _ (List.mem_of_getElem? (i := 3) rfl))) (g := (mkF m 67 #[.val (.long y1), .second, .val (.int y2), .val (.long y3), .second, .val (.long y4), .second, .val (.int y5), .val (.int y6), .val (.long v5), .second, .val (.long v16), .second, .val (.long v23), .second, .val (.long v31), .second, .val (.long v41), .second, .val (.long v52), .second, .val (.long v63), .second, .unset, .unset, .unset, .unset, .unset, .unset, .unset, .unset, .unset, .unset, .unset] [(.long v63)])) rfl (hb hby at_67) _ ?_
    show Steps p.tables e below (s₁.setTop (mkF m 70 #[.val (.long y1), .second, .val (.int y2), .val (.long y3), .second, .val (.long y4), .second, .val (.int y5), .val (.int y6), .val (.long v5), .second, .val (.long v16), .second, .val (.long v23), .second, .val (.long v31), .second, .val (.long v41), .second, .val (.long v52), .second, .val (.long v63), .second, .unset, .unset, .unset, .unset, .unset, .unset, .unset, .unset, .unset, .unset, .unset] [(.long (33 : Int64)), (.long v63)])) _
    refine XS.lload X0.here hx rfl (hb hby at_70) rfl ?_
    show Steps p.tables e below (s₁.setTop (mkF m 72 #[.val (.long y1), .second, .val (.int y2), .val (.long y3), .second, .val (.long y4), .second, .val (.int y5), .val (.int y6), .val (.long v5), .second, .val (.long v16), .second, .val (.long v23), .second, .val (.long v31), .second, .val (.long v41), .second, .val (.long v52), .second, .val (.long v63), .second, .unset, .unset, .unset, .unset, .unset, .unset, .unset, .unset, .unset, .unset, .unset] [(.long v23), (.long (33 : Int64)), (.long v63)])) _
    refine XS.lmul X0.here hx rfl (hb hby at_72) rfl ?_
    show Steps p.tables e below (s₁.setTop (mkF m 73 #[.val (.long y1), .second, .val (.int y2), .val (.long y3), .second, .val (.long y4), .second, .val (.int y5), .val (.int y6), .val (.long v5), .second, .val (.long v16), .second, .val (.long v23), .second, .val (.long v31), .second, .val (.long v41), .second, .val (.long v52), .second, .val (.long v63), .second, .unset, .unset, .unset, .unset, .unset, .unset, .unset, .unset, .unset, .unset, .unset] [(.long ((33 : Int64) * v23)), (.long v63)])) _
    refine XS.lsub X0.here hx rfl (hb hby at_73) rfl ?_
    show Steps p.tables e below (s₁.setTop (mkF m 74 #[.val (.long y1), .second, .val (.int y2), .val (.long y3), .second, .val (.long y4), .second, .val (.int y5), .val (.int y6), .val (.long v5), .second, .val (.long v16), .second, .val (.long v23), .second, .val (.long v31), .second, .val (.long v41), .second, .val (.long v52), .second, .val (.long v63), .second, .unset, .unset, .unset, .unset, .unset, .unset, .unset, .unset, .unset, .unset, .unset] [(.long (v63 - ((33 : Int64) * v23)))])) _
    refine XS.lstore X0.here hx rfl (hb hby at_74) rfl (l' := #[.val (.long y1), .second, .val (.int y2), .val (.long y3), .second, .val (.long y4), .second, .val (.int y5), .val (.int y6), .val (.long v5), .second, .val (.long v16), .second, .val (.long v23), .second, .val (.long v31), .second, .val (.long v41), .second, .val (.long v52), .second, .val (.long v63), .second, .val (.long (v63 - ((33 : Int64) * v23))), .second, .unset, .unset, .unset, .unset, .unset, .unset, .unset, .unset, .unset]) rfl ?_
    exact k
  have pre9 : ∀ t, Steps p.tables e below (s₁.setTop (mkF m 80 #[.val (.long y1), .second, .val (.int y2), .val (.long y3), .second, .val (.long y4), .second, .val (.int y5), .val (.int y6), .val (.long v5), .second, .val (.long v16), .second, .val (.long v23), .second, .val (.long v31), .second, .val (.long v41), .second, .val (.long v52), .second, .val (.long v63), .second, .val (.long v74), .second, .unset, .unset, .unset, .unset, .unset, .unset, .unset, .unset, .unset] [(.int (lcmpW v74 (0 : Int64)))])) t → Steps p.tables e below (s₁.setTop (entryFrame m #[(.long y1), (.int y2), (.long y3), (.long y4), (.int y5), (.int y6)] maxLocals)) t := by
    intro t k
    refine pre8 _ ?_
    show Steps p.tables e below (s₁.setTop (mkF m 76 #[.val (.long y1), .second, .val (.int y2), .val (.long y3), .second, .val (.long y4), .second, .val (.int y5), .val (.int y6), .val (.long v5), .second, .val (.long v16), .second, .val (.long v23), .second, .val (.long v31), .second, .val (.long v41), .second, .val (.long v52), .second, .val (.long v63), .second, .val (.long v74), .second, .unset, .unset, .unset, .unset, .unset, .unset, .unset, .unset, .unset] [])) _
    refine XS.lload X0.here hx rfl (hb hby at_76) rfl ?_
    show Steps p.tables e below (s₁.setTop (mkF m 78 #[.val (.long y1), .second, .val (.int y2), .val (.long y3), .second, .val (.long y4), .second, .val (.int y5), .val (.int y6), .val (.long v5), .second, .val (.long v16), .second, .val (.long v23), .second, .val (.long v31), .second, .val (.long v41), .second, .val (.long v52), .second, .val (.long v63), .second, .val (.long v74), .second, .unset, .unset, .unset, .unset, .unset, .unset, .unset, .unset, .unset] [(.long v74)])) _
    refine XS.lconst X0.here hx rfl (hb hby at_78) ?_
    show Steps p.tables e below (s₁.setTop (mkF m 79 #[.val (.long y1), .second, .val (.int y2), .val (.long y3), .second, .val (.long y4), .second, .val (.int y5), .val (.int y6), .val (.long v5), .second, .val (.long v16), .second, .val (.long v23), .second, .val (.long v31), .second, .val (.long v41), .second, .val (.long v52), .second, .val (.long v63), .second, .val (.long v74), .second, .unset, .unset, .unset, .unset, .unset, .unset, .unset, .unset, .unset] [(.long (0 : Int64)), (.long v74)])) _
    refine XS.lcmp X0.here hx rfl (hb hby at_79) rfl ?_
    exact k
  by_cases hc80 : v74 < (0 : Int64)
  · obtain ⟨fs, hr, hrun, hended, hW, hsame⟩ := X0.leave (v := some (.int (1 : Int32))) (fun h => by rw [Bd.returns] at h; cases h)
    refine ⟨_, _, pre9 _ ?_, hrun, hended, _, _, rfl, ?_, ⟨_, rfl⟩, hW, hsame.mono (by decide) (by decide)⟩
    · show Steps p.tables e below (s₁.setTop (mkF m 80 #[.val (.long y1), .second, .val (.int y2), .val (.long y3), .second, .val (.long y4), .second, .val (.int y5), .val (.int y6), .val (.long v5), .second, .val (.long v16), .second, .val (.long v23), .second, .val (.long v31), .second, .val (.long v41), .second, .val (.long v52), .second, .val (.long v63), .second, .val (.long v74), .second, .unset, .unset, .unset, .unset, .unset, .unset, .unset, .unset, .unset] [(.int (lcmpW v74 (0 : Int64)))])) _
      refine XS.ifNo X0.here hx rfl (hb hby at_80) rfl ((if0 _ _).trans (tlt ((lw_lt v74 (0 : Int64)).mpr hc80)).2.1) ?_
      show Steps p.tables e below (s₁.setTop (mkF m 83 #[.val (.long y1), .second, .val (.int y2), .val (.long y3), .second, .val (.long y4), .second, .val (.int y5), .val (.int y6), .val (.long v5), .second, .val (.long v16), .second, .val (.long v23), .second, .val (.long v31), .second, .val (.long v41), .second, .val (.long v52), .second, .val (.long v63), .second, .val (.long v74), .second, .unset, .unset, .unset, .unset, .unset, .unset, .unset, .unset, .unset] [])) _
      refine XS.iconst X0.here hx rfl (hb hby at_83) ?_
      show Steps p.tables e below (s₁.setTop (mkF m 84 #[.val (.long y1), .second, .val (.int y2), .val (.long y3), .second, .val (.long y4), .second, .val (.int y5), .val (.int y6), .val (.long v5), .second, .val (.long v16), .second, .val (.long v23), .second, .val (.long v31), .second, .val (.long v41), .second, .val (.long v52), .second, .val (.long v63), .second, .val (.long v74), .second, .unset, .unset, .unset, .unset, .unset, .unset, .unset, .unset, .unset] [(.int (1 : Int32))])) _
      exact retN X0 hx (t := .boolean) Bd.returns (by simp) (hb hby at_84) hr
    · show own_Q0 Z y1 y2 y3 y4 y5 y6 h0 n0 _ s₁.heap _
      rw [e0]
      exact ⟨rfl, N0⟩
  · obtain ⟨v101, hv101⟩ : ∃ w : Int64, w = ((((500 : Int64) * v31) + ((100 : Int64) * v41)) + v52) := ⟨_, rfl⟩
    have pre10 : ∀ t, Steps p.tables e below (s₁.setTop (mkF m 103 #[.val (.long y1), .second, .val (.int y2), .val (.long y3), .second, .val (.long y4), .second, .val (.int y5), .val (.int y6), .val (.long v5), .second, .val (.long v16), .second, .val (.long v23), .second, .val (.long v31), .second, .val (.long v41), .second, .val (.long v52), .second, .val (.long v63), .second, .val (.long v74), .second, .val (.long v101), .second, .unset, .unset, .unset, .unset, .unset, .unset, .unset] [])) t → Steps p.tables e below (s₁.setTop (entryFrame m #[(.long y1), (.int y2), (.long y3), (.long y4), (.int y5), (.int y6)] maxLocals)) t := by
      intro t k
      rw [hv101] at k
      refine pre9 _ ?_
      show Steps p.tables e below (s₁.setTop (mkF m 80 #[.val (.long y1), .second, .val (.int y2), .val (.long y3), .second, .val (.long y4), .second, .val (.int y5), .val (.int y6), .val (.long v5), .second, .val (.long v16), .second, .val (.long v23), .second, .val (.long v31), .second, .val (.long v41), .second, .val (.long v52), .second, .val (.long v63), .second, .val (.long v74), .second, .unset, .unset, .unset, .unset, .unset, .unset, .unset, .unset, .unset] [(.int (lcmpW v74 (0 : Int64)))])) _
      refine XS.ifYes X0.here hx rfl (pc0 := 80) (pc' := 85) rfl (hb hby at_80) rfl ((if0 _ _).trans (flt (fun z => hc80 ((lw_lt v74 (0 : Int64)).mp z))).2.1) (by decide) (by decide) ?_
      show Steps p.tables e below (s₁.setTop (mkF m 85 #[.val (.long y1), .second, .val (.int y2), .val (.long y3), .second, .val (.long y4), .second, .val (.int y5), .val (.int y6), .val (.long v5), .second, .val (.long v16), .second, .val (.long v23), .second, .val (.long v31), .second, .val (.long v41), .second, .val (.long v52), .second, .val (.long v63), .second, .val (.long v74), .second, .unset, .unset, .unset, .unset, .unset, .unset, .unset, .unset, .unset] [])) _
      refine X0.ldc2Long hx hown (mvT hZ (hw _ (List.mem_of_getElem? (i := 4) rfl))) (g := (mkF m 85 #[.val (.long y1), .second, .val (.int y2), .val (.long y3), .second, .val (.long y4), .second, .val (.int y5), .val (.int y6), .val (.long v5), .second, .val (.long v16), .second, .val (.long v23), .second, .val (.long v31), .second, .val (.long v41), .second, .val (.long v52), .second, .val (.long v63), .second, .val (.long v74), .second, .unset, .unset, .unset, .unset, .unset, .unset, .unset, .unset, .unset] [])) rfl (hb hby at_85) _ ?_
      show Steps p.tables e below (s₁.setTop (mkF m 88 #[.val (.long y1), .second, .val (.int y2), .val (.long y3), .second, .val (.long y4), .second, .val (.int y5), .val (.int y6), .val (.long v5), .second, .val (.long v16), .second, .val (.long v23), .second, .val (.long v31), .second, .val (.long v41), .second, .val (.long v52), .second, .val (.long v63), .second, .val (.long v74), .second, .unset, .unset, .unset, .unset, .unset, .unset, .unset, .unset, .unset] [(.long (500 : Int64))])) _
      refine XS.lload X0.here hx rfl (hb hby at_88) rfl ?_
      show Steps p.tables e below (s₁.setTop (mkF m 90 #[.val (.long y1), .second, .val (.int y2), .val (.long y3), .second, .val (.long y4), .second, .val (.int y5), .val (.int y6), .val (.long v5), .second, .val (.long v16), .second, .val (.long v23), .second, .val (.long v31), .second, .val (.long v41), .second, .val (.long v52), .second, .val (.long v63), .second, .val (.long v74), .second, .unset, .unset, .unset, .unset, .unset, .unset, .unset, .unset, .unset] [(.long v31), (.long (500 : Int64))])) _
      refine XS.lmul X0.here hx rfl (hb hby at_90) rfl ?_
      show Steps p.tables e below (s₁.setTop (mkF m 91 #[.val (.long y1), .second, .val (.int y2), .val (.long y3), .second, .val (.long y4), .second, .val (.int y5), .val (.int y6), .val (.long v5), .second, .val (.long v16), .second, .val (.long v23), .second, .val (.long v31), .second, .val (.long v41), .second, .val (.long v52), .second, .val (.long v63), .second, .val (.long v74), .second, .unset, .unset, .unset, .unset, .unset, .unset, .unset, .unset, .unset] [(.long ((500 : Int64) * v31))])) _
      refine X0.ldc2Long hx hown (mvT hZ (hw _ (List.mem_of_getElem? (i := 5) rfl))) (g := (mkF m 91 #[.val (.long y1), .second, .val (.int y2), .val (.long y3), .second, .val (.long y4), .second, .val (.int y5), .val (.int y6), .val (.long v5), .second, .val (.long v16), .second, .val (.long v23), .second, .val (.long v31), .second, .val (.long v41), .second, .val (.long v52), .second, .val (.long v63), .second, .val (.long v74), .second, .unset, .unset, .unset, .unset, .unset, .unset, .unset, .unset, .unset] [(.long ((500 : Int64) * v31))])) rfl (hb hby at_91) _ ?_
      show Steps p.tables e below (s₁.setTop (mkF m 94 #[.val (.long y1), .second, .val (.int y2), .val (.long y3), .second, .val (.long y4), .second, .val (.int y5), .val (.int y6), .val (.long v5), .second, .val (.long v16), .second, .val (.long v23), .second, .val (.long v31), .second, .val (.long v41), .second, .val (.long v52), .second, .val (.long v63), .second, .val (.long v74), .second, .unset, .unset, .unset, .unset, .unset, .unset, .unset, .unset, .unset] [(.long (100 : Int64)), (.long ((500 : Int64) * v31))])) _
      refine XS.lload X0.here hx rfl (hb hby at_94) rfl ?_
      show Steps p.tables e below (s₁.setTop (mkF m 96 #[.val (.long y1), .second, .val (.int y2), .val (.long y3), .second, .val (.long y4), .second, .val (.int y5), .val (.int y6), .val (.long v5), .second, .val (.long v16), .second, .val (.long v23), .second, .val (.long v31), .second, .val (.long v41), .second, .val (.long v52), .second, .val (.long v63), .second, .val (.long v74), .second, .unset, .unset, .unset, .unset, .unset, .unset, .unset, .unset, .unset] [(.long v41), (.long (100 : Int64)), (.long ((500 : Int64) * v31))])) _
      refine XS.lmul X0.here hx rfl (hb hby at_96) rfl ?_
      show Steps p.tables e below (s₁.setTop (mkF m 97 #[.val (.long y1), .second, .val (.int y2), .val (.long y3), .second, .val (.long y4), .second, .val (.int y5), .val (.int y6), .val (.long v5), .second, .val (.long v16), .second, .val (.long v23), .second, .val (.long v31), .second, .val (.long v41), .second, .val (.long v52), .second, .val (.long v63), .second, .val (.long v74), .second, .unset, .unset, .unset, .unset, .unset, .unset, .unset, .unset, .unset] [(.long ((100 : Int64) * v41)), (.long ((500 : Int64) * v31))])) _
      refine XS.ladd X0.here hx rfl (hb hby at_97) rfl ?_
      show Steps p.tables e below (s₁.setTop (mkF m 98 #[.val (.long y1), .second, .val (.int y2), .val (.long y3), .second, .val (.long y4), .second, .val (.int y5), .val (.int y6), .val (.long v5), .second, .val (.long v16), .second, .val (.long v23), .second, .val (.long v31), .second, .val (.long v41), .second, .val (.long v52), .second, .val (.long v63), .second, .val (.long v74), .second, .unset, .unset, .unset, .unset, .unset, .unset, .unset, .unset, .unset] [(.long (((500 : Int64) * v31) + ((100 : Int64) * v41)))])) _
      refine XS.lload X0.here hx rfl (hb hby at_98) rfl ?_
      show Steps p.tables e below (s₁.setTop (mkF m 100 #[.val (.long y1), .second, .val (.int y2), .val (.long y3), .second, .val (.long y4), .second, .val (.int y5), .val (.int y6), .val (.long v5), .second, .val (.long v16), .second, .val (.long v23), .second, .val (.long v31), .second, .val (.long v41), .second, .val (.long v52), .second, .val (.long v63), .second, .val (.long v74), .second, .unset, .unset, .unset, .unset, .unset, .unset, .unset, .unset, .unset] [(.long v52), (.long (((500 : Int64) * v31) + ((100 : Int64) * v41)))])) _
      refine XS.ladd X0.here hx rfl (hb hby at_100) rfl ?_
      show Steps p.tables e below (s₁.setTop (mkF m 101 #[.val (.long y1), .second, .val (.int y2), .val (.long y3), .second, .val (.long y4), .second, .val (.int y5), .val (.int y6), .val (.long v5), .second, .val (.long v16), .second, .val (.long v23), .second, .val (.long v31), .second, .val (.long v41), .second, .val (.long v52), .second, .val (.long v63), .second, .val (.long v74), .second, .unset, .unset, .unset, .unset, .unset, .unset, .unset, .unset, .unset] [(.long ((((500 : Int64) * v31) + ((100 : Int64) * v41)) + v52))])) _
      refine XS.lstore X0.here hx rfl (hb hby at_101) rfl (l' := #[.val (.long y1), .second, .val (.int y2), .val (.long y3), .second, .val (.long y4), .second, .val (.int y5), .val (.int y6), .val (.long v5), .second, .val (.long v16), .second, .val (.long v23), .second, .val (.long v31), .second, .val (.long v41), .second, .val (.long v52), .second, .val (.long v63), .second, .val (.long v74), .second, .val (.long ((((500 : Int64) * v31) + ((100 : Int64) * v41)) + v52)), .second, .unset, .unset, .unset, .unset, .unset, .unset, .unset]) rfl ?_
      exact k
    have pre11 : ∀ t, Steps p.tables e below (s₁.setTop (mkF m 109 #[.val (.long y1), .second, .val (.int y2), .val (.long y3), .second, .val (.long y4), .second, .val (.int y5), .val (.int y6), .val (.long v5), .second, .val (.long v16), .second, .val (.long v23), .second, .val (.long v31), .second, .val (.long v41), .second, .val (.long v52), .second, .val (.long v63), .second, .val (.long v74), .second, .val (.long v101), .second, .unset, .unset, .unset, .unset, .unset, .unset, .unset] [(.int (lcmpW v16 (0 : Int64))), (.long v5)])) t → Steps p.tables e below (s₁.setTop (entryFrame m #[(.long y1), (.int y2), (.long y3), (.long y4), (.int y5), (.int y6)] maxLocals)) t := by
      intro t k
      refine pre10 _ ?_
      show Steps p.tables e below (s₁.setTop (mkF m 103 #[.val (.long y1), .second, .val (.int y2), .val (.long y3), .second, .val (.long y4), .second, .val (.int y5), .val (.int y6), .val (.long v5), .second, .val (.long v16), .second, .val (.long v23), .second, .val (.long v31), .second, .val (.long v41), .second, .val (.long v52), .second, .val (.long v63), .second, .val (.long v74), .second, .val (.long v101), .second, .unset, .unset, .unset, .unset, .unset, .unset, .unset] [])) _
      refine XS.lload X0.here hx rfl (hb hby at_103) rfl ?_
      show Steps p.tables e below (s₁.setTop (mkF m 105 #[.val (.long y1), .second, .val (.int y2), .val (.long y3), .second, .val (.long y4), .second, .val (.int y5), .val (.int y6), .val (.long v5), .second, .val (.long v16), .second, .val (.long v23), .second, .val (.long v31), .second, .val (.long v41), .second, .val (.long v52), .second, .val (.long v63), .second, .val (.long v74), .second, .val (.long v101), .second, .unset, .unset, .unset, .unset, .unset, .unset, .unset] [(.long v5)])) _
      refine XS.lload X0.here hx rfl (hb hby at_105) rfl ?_
      show Steps p.tables e below (s₁.setTop (mkF m 107 #[.val (.long y1), .second, .val (.int y2), .val (.long y3), .second, .val (.long y4), .second, .val (.int y5), .val (.int y6), .val (.long v5), .second, .val (.long v16), .second, .val (.long v23), .second, .val (.long v31), .second, .val (.long v41), .second, .val (.long v52), .second, .val (.long v63), .second, .val (.long v74), .second, .val (.long v101), .second, .unset, .unset, .unset, .unset, .unset, .unset, .unset] [(.long v16), (.long v5)])) _
      refine XS.lconst X0.here hx rfl (hb hby at_107) ?_
      show Steps p.tables e below (s₁.setTop (mkF m 108 #[.val (.long y1), .second, .val (.int y2), .val (.long y3), .second, .val (.long y4), .second, .val (.int y5), .val (.int y6), .val (.long v5), .second, .val (.long v16), .second, .val (.long v23), .second, .val (.long v31), .second, .val (.long v41), .second, .val (.long v52), .second, .val (.long v63), .second, .val (.long v74), .second, .val (.long v101), .second, .unset, .unset, .unset, .unset, .unset, .unset, .unset] [(.long (0 : Int64)), (.long v16), (.long v5)])) _
      refine XS.lcmp X0.here hx rfl (hb hby at_108) rfl ?_
      exact k
    obtain ⟨xd, hxd⟩ : ∃ w : Int64, w = (if v16 = (0 : Int64) then (0 : Int64) else (1 : Int64)) := ⟨_, rfl⟩
    have pre12 : ∀ t, Steps p.tables e below (s₁.setTop (mkF m 117 #[.val (.long y1), .second, .val (.int y2), .val (.long y3), .second, .val (.long y4), .second, .val (.int y5), .val (.int y6), .val (.long v5), .second, .val (.long v16), .second, .val (.long v23), .second, .val (.long v31), .second, .val (.long v41), .second, .val (.long v52), .second, .val (.long v63), .second, .val (.long v74), .second, .val (.long v101), .second, .unset, .unset, .unset, .unset, .unset, .unset, .unset] [(.long xd), (.long v5)])) t → Steps p.tables e below (s₁.setTop (entryFrame m #[(.long y1), (.int y2), (.long y3), (.long y4), (.int y5), (.int y6)] maxLocals)) t := by
      intro t k
      refine pre11 _ ?_
      by_cases hm109 : v16 = (0 : Int64)
      · have hq := hxd
        rw [if_pos hm109] at hq
        rw [hq] at k
        show Steps p.tables e below (s₁.setTop (mkF m 109 #[.val (.long y1), .second, .val (.int y2), .val (.long y3), .second, .val (.long y4), .second, .val (.int y5), .val (.int y6), .val (.long v5), .second, .val (.long v16), .second, .val (.long v23), .second, .val (.long v31), .second, .val (.long v41), .second, .val (.long v52), .second, .val (.long v63), .second, .val (.long v74), .second, .val (.long v101), .second, .unset, .unset, .unset, .unset, .unset, .unset, .unset] [(.int (lcmpW v16 (0 : Int64))), (.long v5)])) _
        refine XS.ifYes X0.here hx rfl (pc0 := 109) (pc' := 116) rfl (hb hby at_109) rfl ((if0 _ _).trans (teq ((lw_eq v16 (0 : Int64)).mpr hm109)).1) (by decide) (by decide) ?_
        show Steps p.tables e below (s₁.setTop (mkF m 116 #[.val (.long y1), .second, .val (.int y2), .val (.long y3), .second, .val (.long y4), .second, .val (.int y5), .val (.int y6), .val (.long v5), .second, .val (.long v16), .second, .val (.long v23), .second, .val (.long v31), .second, .val (.long v41), .second, .val (.long v52), .second, .val (.long v63), .second, .val (.long v74), .second, .val (.long v101), .second, .unset, .unset, .unset, .unset, .unset, .unset, .unset] [(.long v5)])) _
        refine XS.lconst X0.here hx rfl (hb hby at_116) ?_
        exact k
      · have hq := hxd
        rw [if_neg hm109] at hq
        rw [hq] at k
        show Steps p.tables e below (s₁.setTop (mkF m 109 #[.val (.long y1), .second, .val (.int y2), .val (.long y3), .second, .val (.long y4), .second, .val (.int y5), .val (.int y6), .val (.long v5), .second, .val (.long v16), .second, .val (.long v23), .second, .val (.long v31), .second, .val (.long v41), .second, .val (.long v52), .second, .val (.long v63), .second, .val (.long v74), .second, .val (.long v101), .second, .unset, .unset, .unset, .unset, .unset, .unset, .unset] [(.int (lcmpW v16 (0 : Int64))), (.long v5)])) _
        refine XS.ifNo X0.here hx rfl (hb hby at_109) rfl ((if0 _ _).trans (feq (fun z => hm109 ((lw_eq v16 (0 : Int64)).mp z))).1) ?_
        show Steps p.tables e below (s₁.setTop (mkF m 112 #[.val (.long y1), .second, .val (.int y2), .val (.long y3), .second, .val (.long y4), .second, .val (.int y5), .val (.int y6), .val (.long v5), .second, .val (.long v16), .second, .val (.long v23), .second, .val (.long v31), .second, .val (.long v41), .second, .val (.long v52), .second, .val (.long v63), .second, .val (.long v74), .second, .val (.long v101), .second, .unset, .unset, .unset, .unset, .unset, .unset, .unset] [(.long v5)])) _
        refine XS.lconst X0.here hx rfl (hb hby at_112) ?_
        show Steps p.tables e below (s₁.setTop (mkF m 113 #[.val (.long y1), .second, .val (.int y2), .val (.long y3), .second, .val (.long y4), .second, .val (.int y5), .val (.int y6), .val (.long v5), .second, .val (.long v16), .second, .val (.long v23), .second, .val (.long v31), .second, .val (.long v41), .second, .val (.long v52), .second, .val (.long v63), .second, .val (.long v74), .second, .val (.long v101), .second, .unset, .unset, .unset, .unset, .unset, .unset, .unset] [(.long (1 : Int64)), (.long v5)])) _
        refine XS.goto X0.here hx rfl (pc0 := 113) (pc' := 117) rfl (hb hby at_113) (by decide) (by decide) ?_
        exact k
    obtain ⟨v121, hv121⟩ : ∃ w : Int64, w = ((v5 + xd) + v23) := ⟨_, rfl⟩
    have pre13 : ∀ t, Steps p.tables e below (s₁.setTop (mkF m 123 #[.val (.long y1), .second, .val (.int y2), .val (.long y3), .second, .val (.long y4), .second, .val (.int y5), .val (.int y6), .val (.long v5), .second, .val (.long v16), .second, .val (.long v23), .second, .val (.long v31), .second, .val (.long v41), .second, .val (.long v52), .second, .val (.long v63), .second, .val (.long v74), .second, .val (.long v101), .second, .val (.long v121), .second, .unset, .unset, .unset, .unset, .unset] [])) t → Steps p.tables e below (s₁.setTop (entryFrame m #[(.long y1), (.int y2), (.long y3), (.long y4), (.int y5), (.int y6)] maxLocals)) t := by
      intro t k
      rw [hv121] at k
      refine pre12 _ ?_
      show Steps p.tables e below (s₁.setTop (mkF m 117 #[.val (.long y1), .second, .val (.int y2), .val (.long y3), .second, .val (.long y4), .second, .val (.int y5), .val (.int y6), .val (.long v5), .second, .val (.long v16), .second, .val (.long v23), .second, .val (.long v31), .second, .val (.long v41), .second, .val (.long v52), .second, .val (.long v63), .second, .val (.long v74), .second, .val (.long v101), .second, .unset, .unset, .unset, .unset, .unset, .unset, .unset] [(.long xd), (.long v5)])) _
      refine XS.ladd X0.here hx rfl (hb hby at_117) rfl ?_
      show Steps p.tables e below (s₁.setTop (mkF m 118 #[.val (.long y1), .second, .val (.int y2), .val (.long y3), .second, .val (.long y4), .second, .val (.int y5), .val (.int y6), .val (.long v5), .second, .val (.long v16), .second, .val (.long v23), .second, .val (.long v31), .second, .val (.long v41), .second, .val (.long v52), .second, .val (.long v63), .second, .val (.long v74), .second, .val (.long v101), .second, .unset, .unset, .unset, .unset, .unset, .unset, .unset] [(.long (v5 + xd))])) _
      refine XS.lload X0.here hx rfl (hb hby at_118) rfl ?_
      show Steps p.tables e below (s₁.setTop (mkF m 120 #[.val (.long y1), .second, .val (.int y2), .val (.long y3), .second, .val (.long y4), .second, .val (.int y5), .val (.int y6), .val (.long v5), .second, .val (.long v16), .second, .val (.long v23), .second, .val (.long v31), .second, .val (.long v41), .second, .val (.long v52), .second, .val (.long v63), .second, .val (.long v74), .second, .val (.long v101), .second, .unset, .unset, .unset, .unset, .unset, .unset, .unset] [(.long v23), (.long (v5 + xd))])) _
      refine XS.ladd X0.here hx rfl (hb hby at_120) rfl ?_
      show Steps p.tables e below (s₁.setTop (mkF m 121 #[.val (.long y1), .second, .val (.int y2), .val (.long y3), .second, .val (.long y4), .second, .val (.int y5), .val (.int y6), .val (.long v5), .second, .val (.long v16), .second, .val (.long v23), .second, .val (.long v31), .second, .val (.long v41), .second, .val (.long v52), .second, .val (.long v63), .second, .val (.long v74), .second, .val (.long v101), .second, .unset, .unset, .unset, .unset, .unset, .unset, .unset] [(.long ((v5 + xd) + v23))])) _
      refine XS.lstore X0.here hx rfl (hb hby at_121) rfl (l' := #[.val (.long y1), .second, .val (.int y2), .val (.long y3), .second, .val (.long y4), .second, .val (.int y5), .val (.int y6), .val (.long v5), .second, .val (.long v16), .second, .val (.long v23), .second, .val (.long v31), .second, .val (.long v41), .second, .val (.long v52), .second, .val (.long v63), .second, .val (.long v74), .second, .val (.long v101), .second, .val (.long ((v5 + xd) + v23)), .second, .unset, .unset, .unset, .unset, .unset]) rfl ?_
      exact k
    obtain ⟨v140, hv140⟩ : ∃ w : Int64, w = (((3 : Int64) + ((11 : Int64) * v31)) + ((2 : Int64) * v41)) := ⟨_, rfl⟩
    have pre14 : ∀ t, Steps p.tables e below (s₁.setTop (mkF m 142 #[.val (.long y1), .second, .val (.int y2), .val (.long y3), .second, .val (.long y4), .second, .val (.int y5), .val (.int y6), .val (.long v5), .second, .val (.long v16), .second, .val (.long v23), .second, .val (.long v31), .second, .val (.long v41), .second, .val (.long v52), .second, .val (.long v63), .second, .val (.long v74), .second, .val (.long v101), .second, .val (.long v121), .second, .val (.long v140), .second, .unset, .unset, .unset] [])) t → Steps p.tables e below (s₁.setTop (entryFrame m #[(.long y1), (.int y2), (.long y3), (.long y4), (.int y5), (.int y6)] maxLocals)) t := by
      intro t k
      rw [hv140] at k
      refine pre13 _ ?_
      show Steps p.tables e below (s₁.setTop (mkF m 123 #[.val (.long y1), .second, .val (.int y2), .val (.long y3), .second, .val (.long y4), .second, .val (.int y5), .val (.int y6), .val (.long v5), .second, .val (.long v16), .second, .val (.long v23), .second, .val (.long v31), .second, .val (.long v41), .second, .val (.long v52), .second, .val (.long v63), .second, .val (.long v74), .second, .val (.long v101), .second, .val (.long v121), .second, .unset, .unset, .unset, .unset, .unset] [])) _
      refine X0.ldc2Long hx hown (mvT hZ (hw _ (List.mem_of_getElem? (i := 6) rfl))) (g := (mkF m 123 #[.val (.long y1), .second, .val (.int y2), .val (.long y3), .second, .val (.long y4), .second, .val (.int y5), .val (.int y6), .val (.long v5), .second, .val (.long v16), .second, .val (.long v23), .second, .val (.long v31), .second, .val (.long v41), .second, .val (.long v52), .second, .val (.long v63), .second, .val (.long v74), .second, .val (.long v101), .second, .val (.long v121), .second, .unset, .unset, .unset, .unset, .unset] [])) rfl (hb hby at_123) _ ?_
      show Steps p.tables e below (s₁.setTop (mkF m 126 #[.val (.long y1), .second, .val (.int y2), .val (.long y3), .second, .val (.long y4), .second, .val (.int y5), .val (.int y6), .val (.long v5), .second, .val (.long v16), .second, .val (.long v23), .second, .val (.long v31), .second, .val (.long v41), .second, .val (.long v52), .second, .val (.long v63), .second, .val (.long v74), .second, .val (.long v101), .second, .val (.long v121), .second, .unset, .unset, .unset, .unset, .unset] [(.long (3 : Int64))])) _
      refine X0.ldc2Long hx hown (mvT hZ (hw _ (List.mem_of_getElem? (i := 7) rfl))) (g := (mkF m 126 #[.val (.long y1), .second, .val (.int y2), .val (.long y3), .second, .val (.long y4), .second, .val (.int y5), .val (.int y6), .val (.long v5), .second, .val (.long v16), .second, .val (.long v23), .second, .val (.long v31), .second, .val (.long v41), .second, .val (.long v52), .second, .val (.long v63), .second, .val (.long v74), .second, .val (.long v101), .second, .val (.long v121), .second, .unset, .unset, .unset, .unset, .unset] [(.long (3 : Int64))])) rfl (hb hby at_126) _ ?_
      show Steps p.tables e below (s₁.setTop (mkF m 129 #[.val (.long y1), .second, .val (.int y2), .val (.long y3), .second, .val (.long y4), .second, .val (.int y5), .val (.int y6), .val (.long v5), .second, .val (.long v16), .second, .val (.long v23), .second, .val (.long v31), .second, .val (.long v41), .second, .val (.long v52), .second, .val (.long v63), .second, .val (.long v74), .second, .val (.long v101), .second, .val (.long v121), .second, .unset, .unset, .unset, .unset, .unset] [(.long (11 : Int64)), (.long (3 : Int64))])) _
      refine XS.lload X0.here hx rfl (hb hby at_129) rfl ?_
      show Steps p.tables e below (s₁.setTop (mkF m 131 #[.val (.long y1), .second, .val (.int y2), .val (.long y3), .second, .val (.long y4), .second, .val (.int y5), .val (.int y6), .val (.long v5), .second, .val (.long v16), .second, .val (.long v23), .second, .val (.long v31), .second, .val (.long v41), .second, .val (.long v52), .second, .val (.long v63), .second, .val (.long v74), .second, .val (.long v101), .second, .val (.long v121), .second, .unset, .unset, .unset, .unset, .unset] [(.long v31), (.long (11 : Int64)), (.long (3 : Int64))])) _
      refine XS.lmul X0.here hx rfl (hb hby at_131) rfl ?_
      show Steps p.tables e below (s₁.setTop (mkF m 132 #[.val (.long y1), .second, .val (.int y2), .val (.long y3), .second, .val (.long y4), .second, .val (.int y5), .val (.int y6), .val (.long v5), .second, .val (.long v16), .second, .val (.long v23), .second, .val (.long v31), .second, .val (.long v41), .second, .val (.long v52), .second, .val (.long v63), .second, .val (.long v74), .second, .val (.long v101), .second, .val (.long v121), .second, .unset, .unset, .unset, .unset, .unset] [(.long ((11 : Int64) * v31)), (.long (3 : Int64))])) _
      refine XS.ladd X0.here hx rfl (hb hby at_132) rfl ?_
      show Steps p.tables e below (s₁.setTop (mkF m 133 #[.val (.long y1), .second, .val (.int y2), .val (.long y3), .second, .val (.long y4), .second, .val (.int y5), .val (.int y6), .val (.long v5), .second, .val (.long v16), .second, .val (.long v23), .second, .val (.long v31), .second, .val (.long v41), .second, .val (.long v52), .second, .val (.long v63), .second, .val (.long v74), .second, .val (.long v101), .second, .val (.long v121), .second, .unset, .unset, .unset, .unset, .unset] [(.long ((3 : Int64) + ((11 : Int64) * v31)))])) _
      refine X0.ldc2Long hx hown (mvT hZ (hw _ (List.mem_of_getElem? (i := 8) rfl))) (g := (mkF m 133 #[.val (.long y1), .second, .val (.int y2), .val (.long y3), .second, .val (.long y4), .second, .val (.int y5), .val (.int y6), .val (.long v5), .second, .val (.long v16), .second, .val (.long v23), .second, .val (.long v31), .second, .val (.long v41), .second, .val (.long v52), .second, .val (.long v63), .second, .val (.long v74), .second, .val (.long v101), .second, .val (.long v121), .second, .unset, .unset, .unset, .unset, .unset] [(.long ((3 : Int64) + ((11 : Int64) * v31)))])) rfl (hb hby at_133) _ ?_
      show Steps p.tables e below (s₁.setTop (mkF m 136 #[.val (.long y1), .second, .val (.int y2), .val (.long y3), .second, .val (.long y4), .second, .val (.int y5), .val (.int y6), .val (.long v5), .second, .val (.long v16), .second, .val (.long v23), .second, .val (.long v31), .second, .val (.long v41), .second, .val (.long v52), .second, .val (.long v63), .second, .val (.long v74), .second, .val (.long v101), .second, .val (.long v121), .second, .unset, .unset, .unset, .unset, .unset] [(.long (2 : Int64)), (.long ((3 : Int64) + ((11 : Int64) * v31)))])) _
      refine XS.lload X0.here hx rfl (hb hby at_136) rfl ?_
      show Steps p.tables e below (s₁.setTop (mkF m 138 #[.val (.long y1), .second, .val (.int y2), .val (.long y3), .second, .val (.long y4), .second, .val (.int y5), .val (.int y6), .val (.long v5), .second, .val (.long v16), .second, .val (.long v23), .second, .val (.long v31), .second, .val (.long v41), .second, .val (.long v52), .second, .val (.long v63), .second, .val (.long v74), .second, .val (.long v101), .second, .val (.long v121), .second, .unset, .unset, .unset, .unset, .unset] [(.long v41), (.long (2 : Int64)), (.long ((3 : Int64) + ((11 : Int64) * v31)))])) _
      refine XS.lmul X0.here hx rfl (hb hby at_138) rfl ?_
      show Steps p.tables e below (s₁.setTop (mkF m 139 #[.val (.long y1), .second, .val (.int y2), .val (.long y3), .second, .val (.long y4), .second, .val (.int y5), .val (.int y6), .val (.long v5), .second, .val (.long v16), .second, .val (.long v23), .second, .val (.long v31), .second, .val (.long v41), .second, .val (.long v52), .second, .val (.long v63), .second, .val (.long v74), .second, .val (.long v101), .second, .val (.long v121), .second, .unset, .unset, .unset, .unset, .unset] [(.long ((2 : Int64) * v41)), (.long ((3 : Int64) + ((11 : Int64) * v31)))])) _
      refine XS.ladd X0.here hx rfl (hb hby at_139) rfl ?_
      show Steps p.tables e below (s₁.setTop (mkF m 140 #[.val (.long y1), .second, .val (.int y2), .val (.long y3), .second, .val (.long y4), .second, .val (.int y5), .val (.int y6), .val (.long v5), .second, .val (.long v16), .second, .val (.long v23), .second, .val (.long v31), .second, .val (.long v41), .second, .val (.long v52), .second, .val (.long v63), .second, .val (.long v74), .second, .val (.long v101), .second, .val (.long v121), .second, .unset, .unset, .unset, .unset, .unset] [(.long (((3 : Int64) + ((11 : Int64) * v31)) + ((2 : Int64) * v41)))])) _
      refine XS.lstore X0.here hx rfl (hb hby at_140) rfl (l' := #[.val (.long y1), .second, .val (.int y2), .val (.long y3), .second, .val (.long y4), .second, .val (.int y5), .val (.int y6), .val (.long v5), .second, .val (.long v16), .second, .val (.long v23), .second, .val (.long v31), .second, .val (.long v41), .second, .val (.long v52), .second, .val (.long v63), .second, .val (.long v74), .second, .val (.long v101), .second, .val (.long v121), .second, .val (.long (((3 : Int64) + ((11 : Int64) * v31)) + ((2 : Int64) * v41))), .second, .unset, .unset, .unset]) rfl ?_
      exact k
    obtain ⟨v151, hv151⟩ : ∃ w : Int64, w = ((188 : Int64) * (v121 + v140)) := ⟨_, rfl⟩
    have pre15 : ∀ t, Steps p.tables e below (s₁.setTop (mkF m 153 #[.val (.long y1), .second, .val (.int y2), .val (.long y3), .second, .val (.long y4), .second, .val (.int y5), .val (.int y6), .val (.long v5), .second, .val (.long v16), .second, .val (.long v23), .second, .val (.long v31), .second, .val (.long v41), .second, .val (.long v52), .second, .val (.long v63), .second, .val (.long v74), .second, .val (.long v101), .second, .val (.long v121), .second, .val (.long v140), .second, .val (.long v151), .second, .unset] [])) t → Steps p.tables e below (s₁.setTop (entryFrame m #[(.long y1), (.int y2), (.long y3), (.long y4), (.int y5), (.int y6)] maxLocals)) t := by
      intro t k
      rw [hv151] at k
      refine pre14 _ ?_
      show Steps p.tables e below (s₁.setTop (mkF m 142 #[.val (.long y1), .second, .val (.int y2), .val (.long y3), .second, .val (.long y4), .second, .val (.int y5), .val (.int y6), .val (.long v5), .second, .val (.long v16), .second, .val (.long v23), .second, .val (.long v31), .second, .val (.long v41), .second, .val (.long v52), .second, .val (.long v63), .second, .val (.long v74), .second, .val (.long v101), .second, .val (.long v121), .second, .val (.long v140), .second, .unset, .unset, .unset] [])) _
      refine X0.ldc2Long hx hown (mvT hZ (hw _ (List.mem_of_getElem? (i := 9) rfl))) (g := (mkF m 142 #[.val (.long y1), .second, .val (.int y2), .val (.long y3), .second, .val (.long y4), .second, .val (.int y5), .val (.int y6), .val (.long v5), .second, .val (.long v16), .second, .val (.long v23), .second, .val (.long v31), .second, .val (.long v41), .second, .val (.long v52), .second, .val (.long v63), .second, .val (.long v74), .second, .val (.long v101), .second, .val (.long v121), .second, .val (.long v140), .second, .unset, .unset, .unset] [])) rfl (hb hby at_142) _ ?_
      show Steps p.tables e below (s₁.setTop (mkF m 145 #[.val (.long y1), .second, .val (.int y2), .val (.long y3), .second, .val (.long y4), .second, .val (.int y5), .val (.int y6), .val (.long v5), .second, .val (.long v16), .second, .val (.long v23), .second, .val (.long v31), .second, .val (.long v41), .second, .val (.long v52), .second, .val (.long v63), .second, .val (.long v74), .second, .val (.long v101), .second, .val (.long v121), .second, .val (.long v140), .second, .unset, .unset, .unset] [(.long (188 : Int64))])) _
      refine XS.lload X0.here hx rfl (hb hby at_145) rfl ?_
      show Steps p.tables e below (s₁.setTop (mkF m 147 #[.val (.long y1), .second, .val (.int y2), .val (.long y3), .second, .val (.long y4), .second, .val (.int y5), .val (.int y6), .val (.long v5), .second, .val (.long v16), .second, .val (.long v23), .second, .val (.long v31), .second, .val (.long v41), .second, .val (.long v52), .second, .val (.long v63), .second, .val (.long v74), .second, .val (.long v101), .second, .val (.long v121), .second, .val (.long v140), .second, .unset, .unset, .unset] [(.long v121), (.long (188 : Int64))])) _
      refine XS.lload X0.here hx rfl (hb hby at_147) rfl ?_
      show Steps p.tables e below (s₁.setTop (mkF m 149 #[.val (.long y1), .second, .val (.int y2), .val (.long y3), .second, .val (.long y4), .second, .val (.int y5), .val (.int y6), .val (.long v5), .second, .val (.long v16), .second, .val (.long v23), .second, .val (.long v31), .second, .val (.long v41), .second, .val (.long v52), .second, .val (.long v63), .second, .val (.long v74), .second, .val (.long v101), .second, .val (.long v121), .second, .val (.long v140), .second, .unset, .unset, .unset] [(.long v140), (.long v121), (.long (188 : Int64))])) _
      refine XS.ladd X0.here hx rfl (hb hby at_149) rfl ?_
      show Steps p.tables e below (s₁.setTop (mkF m 150 #[.val (.long y1), .second, .val (.int y2), .val (.long y3), .second, .val (.long y4), .second, .val (.int y5), .val (.int y6), .val (.long v5), .second, .val (.long v16), .second, .val (.long v23), .second, .val (.long v31), .second, .val (.long v41), .second, .val (.long v52), .second, .val (.long v63), .second, .val (.long v74), .second, .val (.long v101), .second, .val (.long v121), .second, .val (.long v140), .second, .unset, .unset, .unset] [(.long (v121 + v140)), (.long (188 : Int64))])) _
      refine XS.lmul X0.here hx rfl (hb hby at_150) rfl ?_
      show Steps p.tables e below (s₁.setTop (mkF m 151 #[.val (.long y1), .second, .val (.int y2), .val (.long y3), .second, .val (.long y4), .second, .val (.int y5), .val (.int y6), .val (.long v5), .second, .val (.long v16), .second, .val (.long v23), .second, .val (.long v31), .second, .val (.long v41), .second, .val (.long v52), .second, .val (.long v63), .second, .val (.long v74), .second, .val (.long v101), .second, .val (.long v121), .second, .val (.long v140), .second, .unset, .unset, .unset] [(.long ((188 : Int64) * (v121 + v140)))])) _
      refine XS.lstore X0.here hx rfl (hb hby at_151) rfl (l' := #[.val (.long y1), .second, .val (.int y2), .val (.long y3), .second, .val (.long y4), .second, .val (.int y5), .val (.int y6), .val (.long v5), .second, .val (.long v16), .second, .val (.long v23), .second, .val (.long v31), .second, .val (.long v41), .second, .val (.long v52), .second, .val (.long v63), .second, .val (.long v74), .second, .val (.long v101), .second, .val (.long v121), .second, .val (.long v140), .second, .val (.long ((188 : Int64) * (v121 + v140))), .second, .unset]) rfl ?_
      exact k
    obtain ⟨T16, h16, X16, e16, E16, A16, D16, -, st16⟩ := newO X0 hx hZ hown (hw _ (List.mem_of_getElem? (i := 10) rfl)) (hw _ (List.mem_of_getElem? (i := 11) rfl)) (hw _ (List.mem_of_getElem? (i := 12) rfl)) e0 (g := (mkF m 153 #[.val (.long y1), .second, .val (.int y2), .val (.long y3), .second, .val (.long y4), .second, .val (.int y5), .val (.int y6), .val (.long v5), .second, .val (.long v16), .second, .val (.long v23), .second, .val (.long v31), .second, .val (.long v41), .second, .val (.long v52), .second, .val (.long v63), .second, .val (.long v74), .second, .val (.long v101), .second, .val (.long v121), .second, .val (.long v140), .second, .val (.long v151), .second, .unset] [])) rfl (hb hby at_153) (by decide) (by decide)
    obtain ⟨b16, g16⟩ : ∃ z, z = h0.size := ⟨_, rfl⟩
    rw [← g16] at A16 D16 st16
    have g_b16 : n0 ≤ b16 := Nat.le_trans Z0 (Nat.le_of_eq g16.symm)
    have sz_b16 : h0.size ≤ b16 := Nat.le_trans K0.1 (Nat.le_of_eq g16.symm)
    have K16 : Keep h0 h16 [] := K0.ext E16
    have Z16 : n0 ≤ h16.size := Nat.le_trans Z0 E16.1
    obtain ⟨_, _, ⟨T17, L17, k17, n17⟩, -, X17, ⟨Lc17, hQ17, l17, y17, z17⟩, st17⟩ := X16.specialBack hx (y := (⟨"com/example/clotho/clotho/model/MpegTs", "<init>", "()V"⟩ : MethodName)) rfl hown (mvT hZ (hw _ (List.mem_of_getElem? (i := 13) rfl))) (mvT hZ (hw _ (List.mem_of_getElem? (i := 14) rfl))) (mvT hZ (hw _ (List.mem_of_getElem? (i := 15) rfl))) (by decide) (backOf (W := 1) (own_rm1 l Z a0 hw [] b16 h16 n0 Z16 ) hZ (hw _ (List.mem_of_getElem? (i := 15) rfl)) (hw _ (List.mem_of_getElem? (i := 12) rfl)) (by decide) (by decide)) (g := (mkF m 157 #[.val (.long y1), .second, .val (.int y2), .val (.long y3), .second, .val (.long y4), .second, .val (.int y5), .val (.int y6), .val (.long v5), .second, .val (.long v16), .second, .val (.long v23), .second, .val (.long v31), .second, .val (.long v41), .second, .val (.long v52), .second, .val (.long v63), .second, .val (.long v74), .second, .val (.long v101), .second, .val (.long v121), .second, .val (.long v140), .second, .val (.long v151), .second, .unset] [(.ref b16), (.ref b16)])) rfl (by rw [hml]; rfl) (Steps.refl _) (a := b16) (argsL := []) (rest := [(.ref b16)]) (lenOf own_pd0 rfl) rfl (by show 2 * 0 + _ ≤ _; exact Nat.le_of_eq rfl) (hb hby at_157) (fun _ _ => ⟨rfl, e16, (by decide : 1 + 0 ≤ _), (by decide : 0 + 0 ≤ _)⟩)
    dsimp only [Pt.U, Pt.locs, Pt.cells, Pt.slots] at X17 l17 y17 z17 st17 hQ17
    subst l17 y17 z17
    obtain ⟨rfl, N17q, eh17⟩ := hQ17
    have N17 := Fr.app N0 N17q
    obtain ⟨cq18, kq18, q18a, q18b, q18c⟩ := isOf hZ eh17 A16
    obtain ⟨_, _, ⟨T18, L18, k18, n18⟩, -, X18, ⟨Lc18, hQ18, l18, y18, z18⟩, st18⟩ := X17.virtualBack hx (y := (⟨"com/example/clotho/clotho/model/MpegTs", "maxBytes", "(JJJ)J"⟩ : MethodName)) (z := (⟨"com/example/clotho/clotho/model/MpegTs", "maxBytes", "(JJJ)J"⟩ : MethodName)) hown (mvT hZ (hw _ (List.mem_of_getElem? (i := 19) rfl))) (mvT hZ (hw _ (List.mem_of_getElem? (i := 20) rfl))) (notFace_of_selects (args := #[]) (mvT hZ (hw _ (List.mem_of_getElem? (i := 22) rfl)))) (mvT hZ (hw _ (List.mem_of_getElem? (i := 22) rfl))) (mvT hZ (hw _ (List.mem_of_getElem? (i := 21) rfl))) (by decide) (backOf (W := 0) (own_rm3 l Z a0 hw [] b16 v74 v23 v101 h16 n0 Z16 ) hZ (hw _ (List.mem_of_getElem? (i := 23) rfl)) (hw _ (List.mem_of_getElem? (i := 12) rfl)) (by decide) (by decide)) q18a q18c (g := (mkF m 170 #[.val (.long y1), .second, .val (.int y2), .val (.long y3), .second, .val (.long y4), .second, .val (.int y5), .val (.int y6), .val (.long v5), .second, .val (.long v16), .second, .val (.long v23), .second, .val (.long v31), .second, .val (.long v41), .second, .val (.long v52), .second, .val (.long v63), .second, .val (.long v74), .second, .val (.long v101), .second, .val (.long v121), .second, .val (.long v140), .second, .val (.long v151), .second, .val (.ref b16)] [(.long v101), (.long v23), (.long v74), (.ref b16)])) rfl (by rw [hml]; rfl) (Steps.refl _) (argsL := [(.long v74), (.long v23), (.long v101)]) (rest := []) (lenOf own_pd1 rfl) rfl (by show 2 * 0 + _ ≤ _; exact Nat.le_of_eq rfl) (hb hby at_170) (fun _ _ => ⟨rfl, eh17, (by decide : 1 + 0 ≤ _), (by decide : 0 + 0 ≤ _)⟩)
    dsimp only [Pt.U, Pt.locs, Pt.cells, Pt.slots] at X18 l18 y18 z18 st18 hQ18
    subst l18 y18 z18
    obtain ⟨rfl, N18q, eh18⟩ := hQ18
    have N18 := Fr.app N17 N18q
    have hd19 : (own_mb v74 v23 v101) = v151 := (by have q1 := own_m40 y1; rw [← hv5] at q1; have q2 := own_rem y2 184 184 (by decide) (by decide); rw [← hv16] at q2; have q3 := own_m40 y3; rw [← hv23] at q3; have q4 := own_m40 y4; rw [← hv31] at q4; have q5 := own_rem y5 5 5 (by decide) (by decide); rw [← hv41] at q5; have q6 := own_rem y6 100 100 (by decide) (by decide); rw [← hv52] at q6; rw [hv74, hv63] at hc80; rw [hv151, hv140, hv121, hv101, hv74, hv63]; exact own_key q1 q2 q3 q4 q5 q6 hc80 hxd)
    obtain ⟨fs, hr, hrun, hended, hW, hsame⟩ := X18.leave (v := some (.int (1 : Int32))) (fun h => by rw [Bd.returns] at h; cases h)
    refine ⟨_, _, pre15 _ ?_, hrun, hended, _, _, rfl, ?_, ⟨_, rfl⟩, hW, hsame.mono (by decide) (by decide)⟩
    · show Steps p.tables e below (s₁.setTop (mkF m 153 #[.val (.long y1), .second, .val (.int y2), .val (.long y3), .second, .val (.long y4), .second, .val (.int y5), .val (.int y6), .val (.long v5), .second, .val (.long v16), .second, .val (.long v23), .second, .val (.long v31), .second, .val (.long v41), .second, .val (.long v52), .second, .val (.long v63), .second, .val (.long v74), .second, .val (.long v101), .second, .val (.long v121), .second, .val (.long v140), .second, .val (.long v151), .second, .unset] [])) _
      refine st16 _ ?_
      show Steps p.tables e below (T16.setTop (mkF m 156 #[.val (.long y1), .second, .val (.int y2), .val (.long y3), .second, .val (.long y4), .second, .val (.int y5), .val (.int y6), .val (.long v5), .second, .val (.long v16), .second, .val (.long v23), .second, .val (.long v31), .second, .val (.long v41), .second, .val (.long v52), .second, .val (.long v63), .second, .val (.long v74), .second, .val (.long v101), .second, .val (.long v121), .second, .val (.long v140), .second, .val (.long v151), .second, .unset] [(.ref b16)])) _
      refine XS.dup X16.here hx rfl (hb hby at_156) rfl rfl ?_
      show Steps p.tables e below (T16.setTop (mkF m 157 #[.val (.long y1), .second, .val (.int y2), .val (.long y3), .second, .val (.long y4), .second, .val (.int y5), .val (.int y6), .val (.long v5), .second, .val (.long v16), .second, .val (.long v23), .second, .val (.long v31), .second, .val (.long v41), .second, .val (.long v52), .second, .val (.long v63), .second, .val (.long v74), .second, .val (.long v101), .second, .val (.long v121), .second, .val (.long v140), .second, .val (.long v151), .second, .unset] [(.ref b16), (.ref b16)])) _
      refine st17.trans ?_
      show Steps p.tables e below (T17.setTop (mkF m 160 #[.val (.long y1), .second, .val (.int y2), .val (.long y3), .second, .val (.long y4), .second, .val (.int y5), .val (.int y6), .val (.long v5), .second, .val (.long v16), .second, .val (.long v23), .second, .val (.long v31), .second, .val (.long v41), .second, .val (.long v52), .second, .val (.long v63), .second, .val (.long v74), .second, .val (.long v101), .second, .val (.long v121), .second, .val (.long v140), .second, .val (.long v151), .second, .unset] [(.ref b16)])) _
      refine XS.astore X17.here hx rfl (hb hby at_160) rfl rfl (l' := #[.val (.long y1), .second, .val (.int y2), .val (.long y3), .second, .val (.long y4), .second, .val (.int y5), .val (.int y6), .val (.long v5), .second, .val (.long v16), .second, .val (.long v23), .second, .val (.long v31), .second, .val (.long v41), .second, .val (.long v52), .second, .val (.long v63), .second, .val (.long v74), .second, .val (.long v101), .second, .val (.long v121), .second, .val (.long v140), .second, .val (.long v151), .second, .val (.ref b16)]) rfl ?_
      show Steps p.tables e below (T17.setTop (mkF m 162 #[.val (.long y1), .second, .val (.int y2), .val (.long y3), .second, .val (.long y4), .second, .val (.int y5), .val (.int y6), .val (.long v5), .second, .val (.long v16), .second, .val (.long v23), .second, .val (.long v31), .second, .val (.long v41), .second, .val (.long v52), .second, .val (.long v63), .second, .val (.long v74), .second, .val (.long v101), .second, .val (.long v121), .second, .val (.long v140), .second, .val (.long v151), .second, .val (.ref b16)] [])) _
      refine XS.aload X17.here hx rfl (hb hby at_162) rfl rfl ?_
      show Steps p.tables e below (T17.setTop (mkF m 164 #[.val (.long y1), .second, .val (.int y2), .val (.long y3), .second, .val (.long y4), .second, .val (.int y5), .val (.int y6), .val (.long v5), .second, .val (.long v16), .second, .val (.long v23), .second, .val (.long v31), .second, .val (.long v41), .second, .val (.long v52), .second, .val (.long v63), .second, .val (.long v74), .second, .val (.long v101), .second, .val (.long v121), .second, .val (.long v140), .second, .val (.long v151), .second, .val (.ref b16)] [(.ref b16)])) _
      refine XS.lload X17.here hx rfl (hb hby at_164) rfl ?_
      show Steps p.tables e below (T17.setTop (mkF m 166 #[.val (.long y1), .second, .val (.int y2), .val (.long y3), .second, .val (.long y4), .second, .val (.int y5), .val (.int y6), .val (.long v5), .second, .val (.long v16), .second, .val (.long v23), .second, .val (.long v31), .second, .val (.long v41), .second, .val (.long v52), .second, .val (.long v63), .second, .val (.long v74), .second, .val (.long v101), .second, .val (.long v121), .second, .val (.long v140), .second, .val (.long v151), .second, .val (.ref b16)] [(.long v74), (.ref b16)])) _
      refine XS.lload X17.here hx rfl (hb hby at_166) rfl ?_
      show Steps p.tables e below (T17.setTop (mkF m 168 #[.val (.long y1), .second, .val (.int y2), .val (.long y3), .second, .val (.long y4), .second, .val (.int y5), .val (.int y6), .val (.long v5), .second, .val (.long v16), .second, .val (.long v23), .second, .val (.long v31), .second, .val (.long v41), .second, .val (.long v52), .second, .val (.long v63), .second, .val (.long v74), .second, .val (.long v101), .second, .val (.long v121), .second, .val (.long v140), .second, .val (.long v151), .second, .val (.ref b16)] [(.long v23), (.long v74), (.ref b16)])) _
      refine XS.lload X17.here hx rfl (hb hby at_168) rfl ?_
      show Steps p.tables e below (T17.setTop (mkF m 170 #[.val (.long y1), .second, .val (.int y2), .val (.long y3), .second, .val (.long y4), .second, .val (.int y5), .val (.int y6), .val (.long v5), .second, .val (.long v16), .second, .val (.long v23), .second, .val (.long v31), .second, .val (.long v41), .second, .val (.long v52), .second, .val (.long v63), .second, .val (.long v74), .second, .val (.long v101), .second, .val (.long v121), .second, .val (.long v140), .second, .val (.long v151), .second, .val (.ref b16)] [(.long v101), (.long v23), (.long v74), (.ref b16)])) _
      refine st18.trans ?_
      show Steps p.tables e below (T18.setTop (mkF m 173 #[.val (.long y1), .second, .val (.int y2), .val (.long y3), .second, .val (.long y4), .second, .val (.int y5), .val (.int y6), .val (.long v5), .second, .val (.long v16), .second, .val (.long v23), .second, .val (.long v31), .second, .val (.long v41), .second, .val (.long v52), .second, .val (.long v63), .second, .val (.long v74), .second, .val (.long v101), .second, .val (.long v121), .second, .val (.long v140), .second, .val (.long v151), .second, .val (.ref b16)] [(.long (own_mb v74 v23 v101))])) _
      refine XS.lload X18.here hx rfl (hb hby at_173) rfl ?_
      show Steps p.tables e below (T18.setTop (mkF m 175 #[.val (.long y1), .second, .val (.int y2), .val (.long y3), .second, .val (.long y4), .second, .val (.int y5), .val (.int y6), .val (.long v5), .second, .val (.long v16), .second, .val (.long v23), .second, .val (.long v31), .second, .val (.long v41), .second, .val (.long v52), .second, .val (.long v63), .second, .val (.long v74), .second, .val (.long v101), .second, .val (.long v121), .second, .val (.long v140), .second, .val (.long v151), .second, .val (.ref b16)] [(.long v151), (.long (own_mb v74 v23 v101))])) _
      refine XS.lcmp X18.here hx rfl (hb hby at_175) rfl ?_
      show Steps p.tables e below (T18.setTop (mkF m 176 #[.val (.long y1), .second, .val (.int y2), .val (.long y3), .second, .val (.long y4), .second, .val (.int y5), .val (.int y6), .val (.long v5), .second, .val (.long v16), .second, .val (.long v23), .second, .val (.long v31), .second, .val (.long v41), .second, .val (.long v52), .second, .val (.long v63), .second, .val (.long v74), .second, .val (.long v101), .second, .val (.long v121), .second, .val (.long v140), .second, .val (.long v151), .second, .val (.ref b16)] [(.int (lcmpW (own_mb v74 v23 v101) v151))])) _
      refine XS.ifNo X18.here hx rfl (hb hby at_176) rfl ((if0 _ _).trans (teq ((lw_eq (own_mb v74 v23 v101) v151).mpr hd19)).2) ?_
      show Steps p.tables e below (T18.setTop (mkF m 179 #[.val (.long y1), .second, .val (.int y2), .val (.long y3), .second, .val (.long y4), .second, .val (.int y5), .val (.int y6), .val (.long v5), .second, .val (.long v16), .second, .val (.long v23), .second, .val (.long v31), .second, .val (.long v41), .second, .val (.long v52), .second, .val (.long v63), .second, .val (.long v74), .second, .val (.long v101), .second, .val (.long v121), .second, .val (.long v140), .second, .val (.long v151), .second, .val (.ref b16)] [])) _
      refine XS.iconst X18.here hx rfl (hb hby at_179) ?_
      show Steps p.tables e below (T18.setTop (mkF m 180 #[.val (.long y1), .second, .val (.int y2), .val (.long y3), .second, .val (.long y4), .second, .val (.int y5), .val (.int y6), .val (.long v5), .second, .val (.long v16), .second, .val (.long v23), .second, .val (.long v31), .second, .val (.long v41), .second, .val (.long v52), .second, .val (.long v63), .second, .val (.long v74), .second, .val (.long v101), .second, .val (.long v121), .second, .val (.long v140), .second, .val (.long v151), .second, .val (.ref b16)] [(.int (1 : Int32))])) _
      refine XS.goto X18.here hx rfl (pc0 := 180) (pc' := 184) rfl (hb hby at_180) (by decide) (by decide) ?_
      show Steps p.tables e below (T18.setTop (mkF m 184 #[.val (.long y1), .second, .val (.int y2), .val (.long y3), .second, .val (.long y4), .second, .val (.int y5), .val (.int y6), .val (.long v5), .second, .val (.long v16), .second, .val (.long v23), .second, .val (.long v31), .second, .val (.long v41), .second, .val (.long v52), .second, .val (.long v63), .second, .val (.long v74), .second, .val (.long v101), .second, .val (.long v121), .second, .val (.long v140), .second, .val (.long v151), .second, .val (.ref b16)] [(.int (1 : Int32))])) _
      exact retN X18 hx (t := .boolean) Bd.returns (by simp) (hb hby at_184) hr
    · show own_Q0 Z y1 y2 y3 y4 y5 y6 h0 n0 _ T18.heap _
      rw [eh18]
      exact ⟨rfl, N18⟩
set_option maxRecDepth 65536 in
set_option maxHeartbeats 40000000 in
theorem own_comes_1 {Post : Tables → Env → Array Value → State → Outcome → State → Prop} (hpost : ∀ tb e args s v u, (limb_1_1.after args s (.returned v) u = true ∧ limb_1_2.after args s (.returned v) u = true ∧ True) → FrameEnd s (.returned v) u (Jvm.fieldLocs frame_1_writes args s ++ Jvm.arrayLocs frame_1_arrays args s ++ Jvm.staticLocs frame_1_statics s) 16 64 → Post tb e args s (.returned v) u) :
    ArmFor flags0 classFile x code maxLocals ret World_1 tables_1 room_1 Calls_1 rest_1 Pre_1 Post := by
  intro l hfl _ _ p e ha hc hk s m args below hf hA hF happ hP
  obtain ⟨hcalls, hrest, hpre⟩ := hP
  obtain ⟨-, -, -, hnamed, -, -, -, hat⟩ := (Spec.applies_iff hf).mp happ
  obtain ⟨hg, hn⟩ := and_e (Cond.before_iff.mp (show (Jvm.Cond.and given_1 narrow_1).before args s = true from hpre))
  obtain ⟨gg1, gg2⟩ := and_e hg
  obtain ⟨gg3, gg4⟩ := and_e gg2
  obtain ⟨gg5, gg6⟩ := and_e gg4
  obtain ⟨gg7, gg8⟩ := and_e gg6
  obtain ⟨gg9, gg10⟩ := and_e gg8
  obtain ⟨gg11, gg12⟩ := and_e gg10
  obtain ⟨w0, w1, w2, w3, w4, w5, rfl⟩ : ∃ w0 w1 w2 w3 w4 w5 : Value, args = #[w0, w1, w2, w3, w4, w5] := by
    have hs : args.size = 6 := by simpa [Cond.value, given_1] using gg1
    obtain ⟨L⟩ := args
    match L, hs with
    | [w0, w1, w2, w3, w4, w5], _ => exact ⟨w0, w1, w2, w3, w4, w5, rfl⟩
  have hw := fun d (hd : d ∈ tables_1) => atoms_spec (ws := Jvm.Cond.code x code maxLocals ret :: tables_1) hat d (List.mem_cons_of_mem _ hd)
  have hfit : Fit s := fun {y c} hc i hi => by
    obtain ⟨ha, rfl⟩ := Array.getElem?_eq_some_iff.mp hc
    have q := List.all_eq_true.mp ((Array.all_eq_true_iff_forall_mem.mp hF) _ (Array.getElem_mem ha)) i (List.mem_range.mpr hi)
    simpa [Array.getElem?_eq_getElem hi] using q
  obtain ⟨i0, ei0⟩ := isL_v gg3
  obtain rfl : w0 = (.long i0) := Option.some.inj ei0
  obtain ⟨i1, ei1⟩ := is_v gg5
  obtain rfl : w1 = (.int i1) := Option.some.inj ei1
  obtain ⟨i2, ei2⟩ := isL_v gg7
  obtain rfl : w2 = (.long i2) := Option.some.inj ei2
  obtain ⟨i3, ei3⟩ := isL_v gg9
  obtain rfl : w3 = (.long i3) := Option.some.inj ei3
  obtain ⟨i4, ei4⟩ := is_v gg11
  obtain rfl : w4 = (.int i4) := Option.some.inj ei4
  obtain ⟨i5, ei5⟩ := is_v gg12
  obtain rfl : w5 = (.int i5) := Option.some.inj ei5
  obtain ⟨n, o, h1, h2, h3, _, L, rfl, ⟨rfl, N⟩, hq⟩ := own_rm0 l s _ hw tables_1 i0 i1 i2 i3 i4 i5  s.heap s.heap.size (Nat.le_refl _)  p e ha hc hk s m _ below hf ((Spec.applies_iff_loose hf).mp happ).1 ⟨rfl, State.Warmed39.refl s, rfl⟩ trivial
  refine ⟨n, _, h1, h2, h3, hpost _ _ _ _ _ _ ⟨Cond.after_iff.mpr rfl, Cond.after_iff.mpr (eq_i res_at (Term.int_eval (1)) rfl), trivial⟩ ⟨hq.1, hq.2.1, (hq.2.2.sift fun y hy => Or.inr (N y hy)).mono (by decide) (by decide)⟩⟩
theorem main_1_1 : Claimed_1_1 := own_comes_1 fun _ _ _ _ _ _ h hF => ⟨h.1, hF⟩
theorem main_1_2 : Claimed_1_2 := own_comes_1 fun _ _ _ _ _ _ h hF => ⟨h.2.1, hF⟩
end Jvm.Pilot.@@N@@
namespace Jvm.Pilot.@@N@@
open Jvm Jvm.ClassFile Sem Op Lib Jvm.Free Jvm.Stand Jvm.Pilot.@@N@@.Jvm.D
/-! MADE BY PROGRAM (witnessworld.py) out of the Statement's table words and the real class files: 10 classes; the members and pool entries that the words name. The judged class is class 1, her method 1. -/
namespace start1
open Jvm.ClassFile
def u (s : String) : CpInfo := .utf8 (stringToUtf16 s)
/-- a pool by its gaps: so many unusable entries, then the entry; so many at the end -/
def gap : Nat → List CpInfo → List CpInfo
  | 0, r => r
  | n + 1, r => .unusable :: gap n r
def poolList (es : List (Nat × CpInfo)) (last : Nat) : List CpInfo := es.foldr (fun e r => gap e.1 (e.2 :: r)) (gap last [])
def pool (es : List (Nat × CpInfo)) (last : Nat) : Array CpInfo := ⟨poolList es last⟩
def fileOf (pool : Array CpInfo) (this : Nat) (attrs : Array Attribute := #[]) (ms : Array MethodInfo := #[]) (fl : Nat := 33) (sup : Nat := 0) (ifs : Array Nat := #[]) (fds : Array FieldInfo := #[]) : ClassFile where
  minorVersion := 0
  majorVersion := 65
  constantPool := pool
  accessFlags := fl
  thisClass := this
  superClass := sup
  interfaces := ifs
  fields := fds
  methods := ms
  attributes := attrs
def plain (name : String) (sup : Option ClassId) : Class where
  name := name
  kind := .ordinary
  loader := none
  accessFlags := 33
  super := sup
  interfaces := #[]
  cf := none
  fields := #[]
  methods := #[]
  instanceTypes := #[]
  staticTypes := #[]
  resolved := #[]
  callSites := []
  init := .initialized
  statics := none
  mirror := none

def pool0 : Array CpInfo := pool [(5, u "<init>"), (0, u "()V"), (1, .class_ 10), (1, u "java/lang/Object")] 113

def k0c0 : Code := { maxStack := 0, maxLocals := 1, code := object_method_1_code, exceptionTable := #[], attributes := #[] }
def k0m0 : Method := { name := "<init>", desc := "()V", sig := { parameters := [], returnType := none }, accessFlags := 1, code := some k0c0 }
/-- java/lang/Object -/
def k0 : Class := { plain "java/lang/Object" none with
  accessFlags := 33
  interfaces := #[]
  cf := some (fileOf pool0 8 #[] #[{ accessFlags := 1, nameIndex := 5, descriptorIndex := 6, attributes := #[] }] 33 0 #[] #[])
  fields := #[]
  methods := #[k0m0]
  instanceTypes := #[]
  staticTypes := #[]
  resolved := Array.replicate 124 none
  statics := none }

def pool1 : Array CpInfo := pool [(2, .class_ 4), (0, .nameAndType 5 6), (0, u "java/lang/Object"), (0, u "<init>"), (0, u "()V"), (0, .long 1099511627775), (1, .integer 2147483647), (0, .long 184), (1, .long 33), (1, .long 500), (1, .long 100), (1, .long 3), (1, .long 11), (1, .long 2), (1, .long 188), (1, .class_ 27), (0, u "com/example/clotho/clotho/model/MpegTs"), (0, .methodref 26 3), (0, .methodref 26 30), (0, .nameAndType 31 32), (0, u "maxBytes"), (0, u "(JJJ)J"), (0, .class_ 34), (0, u "com/example/clotho/clotho/model/MpegTsMaxBytesPinLaw"), (2, u "law"), (0, u "(JIJJII)Z")] 3

def k1m0 : Method := { name := "<init>", desc := "()V", sig := { parameters := [], returnType := none }, accessFlags := 1, code := none }
def k1c1 : Code := { maxStack := 7, maxLocals := 34, code := code, exceptionTable := #[], attributes := #[] }
def k1m1 : Method := { name := "law", desc := "(JIJJII)Z", sig := { parameters := [.long, .int, .long, .long, .int, .int], returnType := some .boolean }, accessFlags := 9, code := some k1c1 }
/-- com/example/clotho/clotho/model/MpegTsMaxBytesPinLaw -/
def k1 : Class := { plain "com/example/clotho/clotho/model/MpegTsMaxBytesPinLaw" (some 0) with
  accessFlags := 49
  interfaces := #[]
  cf := some (fileOf pool1 33 #[] #[{ accessFlags := 1, nameIndex := 5, descriptorIndex := 6, attributes := #[] }, { accessFlags := 9, nameIndex := 37, descriptorIndex := 38, attributes := #[] }] 49 2 #[] #[])
  fields := #[]
  methods := #[k1m0, k1m1]
  instanceTypes := #[]
  staticTypes := #[]
  resolved := Array.replicate 42 none
  statics := none }

def pool2 : Array CpInfo := pool [(1, .class_ 2), (0, u "com/example/clotho/clotho/model/SegmentContainer"), (0, .class_ 4), (0, u "java/lang/Object")] 10

/-- com/example/clotho/clotho/model/SegmentContainer -/
def k2 : Class := { plain "com/example/clotho/clotho/model/SegmentContainer" (some 0) with
  accessFlags := 1537
  interfaces := #[]
  cf := some (fileOf pool2 1 #[] #[] 1537 3 #[] #[])
  fields := #[]
  methods := #[]
  instanceTypes := #[]
  staticTypes := #[]
  resolved := Array.replicate 15 none
  statics := none }

def pool3 : Array CpInfo := pool [(1, .methodref 2 3), (0, .class_ 4), (0, .nameAndType 5 6), (0, u "java/lang/Object"), (0, u "<init>"), (0, u "()V"), (12, .class_ 20), (0, u "com/example/clotho/clotho/model/MpegTs"), (0, .long 33), (1, .long 184), (1, .long 2), (1, .long 100), (1, .long 500), (1, .long 188), (1, .class_ 34), (0, u "com/example/clotho/clotho/model/SegmentContainer"), (0, u "PACKET_BYTES"), (0, u "J"), (1, u "PAYLOAD_BYTES"), (0, u "UNIT_BYTES"), (8, u "maxBytes"), (0, u "(JJJ)J")] 2

def k3c0 : Code := { maxStack := 1, maxLocals := 1, code := prog_40_method_1_code, exceptionTable := #[], attributes := #[] }
def k3m0 : Method := { name := "<init>", desc := "()V", sig := { parameters := [], returnType := none }, accessFlags := 1, code := some k3c0 }
def k3c1 : Code := { maxStack := 8, maxLocals := 13, code := prog_40_method_6_code, exceptionTable := #[], attributes := #[] }
def k3m1 : Method := { name := "maxBytes", desc := "(JJJ)J", sig := { parameters := [.long, .long, .long], returnType := some .long }, accessFlags := 1, code := some k3c1 }
/-- com/example/clotho/clotho/model/MpegTs -/
def k3 : Class := { plain "com/example/clotho/clotho/model/MpegTs" (some 0) with
  accessFlags := 49
  interfaces := #[2]
  cf := some (fileOf pool3 19 #[] #[{ accessFlags := 1, nameIndex := 5, descriptorIndex := 6, attributes := #[] }, { accessFlags := 1, nameIndex := 48, descriptorIndex := 49, attributes := #[] }] 49 2 #[33] #[{ accessFlags := 26, nameIndex := 35, descriptorIndex := 36, attributes := #[] }, { accessFlags := 26, nameIndex := 38, descriptorIndex := 36, attributes := #[] }, { accessFlags := 26, nameIndex := 39, descriptorIndex := 36, attributes := #[] }])
  fields := #[{ name := "PACKET_BYTES", type := .long, accessFlags := 26, slot := 0, constantValue := 0 }, { name := "PAYLOAD_BYTES", type := .long, accessFlags := 26, slot := 1, constantValue := 0 }, { name := "UNIT_BYTES", type := .long, accessFlags := 26, slot := 2, constantValue := 0 }]
  methods := #[k3m0, k3m1]
  instanceTypes := #[]
  staticTypes := #[.long, .long, .long]
  resolved := Array.replicate 52 none
  statics := none }

def pool4 : Array CpInfo := pool [(1, u "java/lang/Cloneable"), (0, .class_ 1), (0, u "java/lang/Object"), (0, .class_ 3)] 3

/-- java/lang/Cloneable -/
def k4 : Class := { plain "java/lang/Cloneable" (some 0) with
  accessFlags := 1537
  interfaces := #[]
  cf := some (fileOf pool4 2 #[] #[] 1537 4 #[] #[])
  fields := #[]
  methods := #[]
  instanceTypes := #[]
  staticTypes := #[]
  resolved := Array.replicate 8 none
  statics := none }

def pool5 : Array CpInfo := pool [(1, u "java/io/Serializable"), (0, .class_ 1), (0, u "java/lang/Object"), (0, .class_ 3)] 3

/-- java/io/Serializable -/
def k5 : Class := { plain "java/io/Serializable" (some 0) with
  accessFlags := 1537
  interfaces := #[]
  cf := some (fileOf pool5 2 #[] #[] 1537 4 #[] #[])
  fields := #[]
  methods := #[]
  instanceTypes := #[]
  staticTypes := #[]
  resolved := Array.replicate 8 none
  statics := none }

/-- the primitive byte -/
def k6 : Class := { plain "byte" none with kind := .primitive 'B', accessFlags := 0x411 }
/-- [B -/
def k7 : Class := { plain "[B" (some 0) with kind := .array 6 .byte, interfaces := #[4, 5], accessFlags := 1041 }

/-- the primitive int -/
def k8 : Class := { plain "int" none with kind := .primitive 'I', accessFlags := 0x411 }
/-- [I -/
def k9 : Class := { plain "[I" (some 0) with kind := .array 8 .int, interfaces := #[4, 5], accessFlags := 1041 }

def heap : Heap := #[]
def classes : Array Class := #[k0, k1, k2, k3, k4, k5, k6, k7, k8, k9]
def interned : List (Array UInt16 × Addr) := []
def slotsUsed : Nat := 0
def theMethod : MethodId := ⟨1, 1⟩
def args0 : Array Value := #[.long 5, .int 7, .long 1, .long 2, .int 3, .int 4]
def aboutOver (below : List Frame) : State where
  vm := { classes := classes, interned := interned.toArray }
  heap := heap
  slotsUsed := slotsUsed
  threads := #[{ frames := .invoking theMethod args0 :: below }]
def below0 : List Frame := [.native { method := ⟨0, 0⟩, args := #[] }]
def about1 : State := aboutOver below0
def p0 : Program := .bare "" "" ""
def e0 : Env := launch0.env 0 0 0
theorem w_frames : about1.frames = Frame.invoking theMethod args0 :: below0 := rfl
set_option maxRecDepth 65536 in
theorem w_args : argsFit about1.vm theMethod args0 = true := by decide +kernel
set_option maxRecDepth 65536 in
theorem w_heap : heapFits about1 = true := by decide +kernel
set_option maxRecDepth 65536 in
theorem w_runnable : about1.curStatus? = some .runnable := by decide +kernel
set_option maxRecDepth 65536 in
theorem w_alone : about1.alone = true := by decide +kernel
set_option maxRecDepth 65536 in
theorem w_named : about1.methodNamed? x = some theMethod := by decide +kernel
set_option maxRecDepth 65536 in
theorem w_hears : about1.hears theMethod below0 = true := by decide +kernel
set_option maxRecDepth 65536 in
theorem w_ripe : about1.ripe theMethod args0 below0 = true := by decide +kernel
theorem w_running : about1.status = .running := rfl
set_option maxRecDepth 65536 in
theorem w_room : about1.hasRoom e0.platform room_1 = true :=
  launch0.hasRoom_least _ room_1 (by decide +kernel) (by decide +kernel) (by decide +kernel) (by decide +kernel) (by decide +kernel) (by decide +kernel)
theorem allAtoms_all (ts : List Jvm.Cond) (a : Array Jvm.Value) (st : Jvm.State) : (allAtoms ts).before a st = ts.all (fun c => c.before a st) := by
  induction ts with
  | nil => rfl
  | cons c t ih =>
    show (Jvm.Cond.and c (allAtoms t)).before a st = _
    rw [Jvm.Cond.before_and, ih, List.all_cons]
def words1 : List Jvm.Cond := Jvm.Cond.code x code maxLocals ret :: tables_1
/-- a 'code' word, met by the world's own term for the bytes: nothing is compared byte by byte -/
theorem code_word {y : MethodName} {bytes : ByteArray} {mx : Nat} {rt : Option FieldType} {a : Array Value} {s : State} {m : MethodId} {meth : Method} {c : Code} (h1 : s.methodNamed? y = some m) (h2 : s.vm.method? m = some meth) (h3 : meth.code = some c) (h4 : c.code = bytes)
    (h5 : (c.maxLocals == mx && c.exceptionTable.isEmpty && decide (c.maxStack ≤ mostOperands) && decide (meth.sig.returnType = rt) && !meth.locks && decide (parseMethodDescriptor y.desc = some meth.sig)) = true) : (Jvm.Cond.code y bytes mx rt).before a s = true := by
  simp only [Bool.and_eq_true, beq_iff_eq, Bool.not_eq_true', decide_eq_true_eq] at h5
  obtain ⟨⟨⟨⟨⟨g1, g2⟩, g3⟩, g4⟩, g5⟩, g6⟩ := h5
  simp [Cond.before, Cond.holds, Cond.value, h1, h2, h3, h4, g1, g2, g3, g4, g5, g6]
def isCode : Jvm.Cond → Bool
  | .code _ _ _ _ => true
  | _ => false
theorem all_split {L : List Jvm.Cond} {P : Jvm.Cond → Bool} (h1 : L.all (fun c => isCode c || P c) = true) (h2 : ∀ c ∈ L.filter isCode, P c = true) : L.all P = true := by
  refine List.all_eq_true.mpr fun c hc => ?_
  have h := List.all_eq_true.mp h1 c hc
  rcases Bool.eq_false_or_eq_true (isCode c) with hi | hi
  · exact h2 c (List.mem_filter.mpr ⟨hc, hi⟩)
  · simpa [hi] using h
set_option maxRecDepth 65536 in
theorem w_c0 : (Jvm.Cond.code x code maxLocals ret).before args0 about1 = true := code_word (m := ⟨1, 1⟩) (meth := k1m1) (c := k1c1) (by decide +kernel) rfl rfl rfl (by decide +kernel)
set_option maxRecDepth 65536 in
theorem w_c1 : (Jvm.Cond.code ({ cls := "com/example/clotho/clotho/model/MpegTs", name := "<init>", desc := "()V" } : Jvm.MethodName) prog_40_method_1_code (1 : Nat) (Option.none : Option Jvm.ClassFile.FieldType)).before args0 about1 = true := code_word (m := ⟨3, 0⟩) (meth := k3m0) (c := k3c0) (by decide +kernel) rfl rfl rfl (by decide +kernel)
set_option maxRecDepth 65536 in
theorem w_c2 : (Jvm.Cond.code ({ cls := "java/lang/Object", name := "<init>", desc := "()V" } : Jvm.MethodName) object_method_1_code (1 : Nat) (Option.none : Option Jvm.ClassFile.FieldType)).before args0 about1 = true := code_word (m := ⟨0, 0⟩) (meth := k0m0) (c := k0c0) (by decide +kernel) rfl rfl rfl (by decide +kernel)
set_option maxRecDepth 65536 in
theorem w_c3 : (Jvm.Cond.code ({ cls := "com/example/clotho/clotho/model/MpegTs", name := "maxBytes", desc := "(JJJ)J" } : Jvm.MethodName) prog_40_method_6_code (13 : Nat) (Option.some Jvm.ClassFile.FieldType.long)).before args0 about1 = true := code_word (m := ⟨3, 1⟩) (meth := k3m1) (c := k3c1) (by decide +kernel) rfl rfl rfl (by decide +kernel)
def codes1 : List Jvm.Cond := [Jvm.Cond.code x code maxLocals ret, Jvm.Cond.code ({ cls := "com/example/clotho/clotho/model/MpegTs", name := "<init>", desc := "()V" } : Jvm.MethodName) prog_40_method_1_code (1 : Nat) (Option.none : Option Jvm.ClassFile.FieldType), Jvm.Cond.code ({ cls := "java/lang/Object", name := "<init>", desc := "()V" } : Jvm.MethodName) object_method_1_code (1 : Nat) (Option.none : Option Jvm.ClassFile.FieldType), Jvm.Cond.code ({ cls := "com/example/clotho/clotho/model/MpegTs", name := "maxBytes", desc := "(JJJ)J" } : Jvm.MethodName) prog_40_method_6_code (13 : Nat) (Option.some Jvm.ClassFile.FieldType.long)]
set_option maxRecDepth 65536 in
theorem codes_eq : words1.filter isCode = codes1 := rfl
theorem w_codes : ∀ c ∈ words1.filter isCode, c.before args0 about1 = true := by
  rw [codes_eq]
  intro c hc
  simp only [codes1, List.mem_cons, List.not_mem_nil, or_false] at hc
  rcases hc with rfl | rfl | rfl | rfl
  · exact w_c0
  · exact w_c1
  · exact w_c2
  · exact w_c3
set_option maxRecDepth 65536 in
theorem w_t1 : (words1.take 24).all (fun c => isCode c || c.before args0 about1) = true := by decide +kernel
set_option maxRecDepth 65536 in
theorem w_t2 : (words1.drop 24).all (fun c => isCode c || c.before args0 about1) = true := by decide +kernel
theorem w_tables : (allAtoms (Jvm.Cond.code x code maxLocals ret :: tables_1)).before args0 about1 = true := by
  rw [allAtoms_all]
  show words1.all (fun c => c.before args0 about1) = true
  refine all_split ?_ w_codes
  rw [← List.take_append_drop 24 words1, List.all_append, w_t1, w_t2]
  rfl
set_option maxRecDepth 65536 in
theorem w_case : (Jvm.Cond.and given_1 narrow_1).before args0 about1 = true := by decide +kernel
theorem w_applies : (headSpec (Jvm.Cond.code x code maxLocals ret :: tables_1) room_1).applies x e0.platform about1 = true :=
  (Spec.applies_iff w_frames).mpr ⟨w_running, w_runnable, w_alone, w_named, w_hears, w_ripe, w_room, w_tables⟩
theorem atStart : AtStart classFile x code maxLocals ret World_1 tables_1 room_1 Calls_1 rest_1 Pre_1 launch0 p0 e0 about1 theMethod args0 below0 :=
  ⟨lists_1, trivial, launch0.admits_env _ _ _, launch0.least_env, fairChoices_fair.cas, fairChoices_fair.clock, w_frames, w_args, w_heap, w_applies, trivial, trivial, w_case⟩
end start1
theorem witness_1 : WitnessClaimed_1 := ⟨start1.p0, start1.e0, start1.about1, start1.theMethod, start1.args0, start1.below0, start1.atStart⟩
end Jvm.Pilot.@@N@@
