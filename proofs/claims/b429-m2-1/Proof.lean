import JvmDerived
import JvmDerived.Pilot.@@N@@Statement
import JvmDerived.Pilot.@@N@@Code
set_option linter.unusedVariables false
set_option linter.unusedSimpArgs false
namespace Jvm.RoadKit
open Sem ClassFile Op Lib Jvm.Stand Jvm.Free Jvm.LawKit
section New
variable {p : Program} {l : Launch} {e : Env} {R : Room} {s : State} {m : MethodId} {args : Array Value} {below : List Frame} {meth : Method} {c : Code} {T : State} {locs : List Loc} {cells slots : Nat}
theorem retI (X : Stand p l e R s m args below meth c T locs cells slots) (hx : p.tables.exec = Jvm.exec) {pc : Nat} {Ls : Array Slot} {z : Int32} {rest : List Value} (hret : meth.sig.returnType = some .int) (hd : decode c.code pc = .ok (.ireturn, 1)) {fs : List Frame}
    (hl : ∀ (f : JFrame) (acts : List Action), f.method = m → f.locked = none → f.entered = [] → (doReturn e (T.setTop f) acts (some (.int z))).1 = T.setFrames fs) : Steps p.tables e below (T.setTop (mkF m pc Ls (.int z :: rest))) (T.setFrames fs) :=
  retOut X hx hret rfl (Or.inl ⟨rfl, Or.inl rfl, z, rfl⟩) hd hl
theorem retJ (X : Stand p l e R s m args below meth c T locs cells slots) (hx : p.tables.exec = Jvm.exec) {pc : Nat} {Ls : Array Slot} {z : Int64} {rest : List Value} (hret : meth.sig.returnType = some .long) (hd : decode c.code pc = .ok (.lreturn, 1)) {fs : List Frame}
    (hl : ∀ (f : JFrame) (acts : List Action), f.method = m → f.locked = none → f.entered = [] → (doReturn e (T.setTop f) acts (some (.long z))).1 = T.setFrames fs) : Steps p.tables e below (T.setTop (mkF m pc Ls (.long z :: rest))) (T.setFrames fs) :=
  retOut X hx hret rfl (Or.inr (Or.inl ⟨rfl, rfl, z, rfl⟩)) hd hl
theorem retA (X : Stand p l e R s m args below meth c T locs cells slots) (hx : p.tables.exec = Jvm.exec) {pc : Nat} {Ls : Array Slot} {w : Value} {rest : List Value} {t : FieldType} (hret : meth.sig.returnType = some t) (ht : t.isReference = true) (hn : narrow t w = w) (hw : w.isRef = true) (hd : decode c.code pc = .ok (.areturn, 1)) {fs : List Frame}
    (hl : ∀ (f : JFrame) (acts : List Action), f.method = m → f.locked = none → f.entered = [] → (doReturn e (T.setTop f) acts (some w)).1 = T.setFrames fs) : Steps p.tables e below (T.setTop (mkF m pc Ls (w :: rest))) (T.setFrames fs) :=
  retOut X hx hret hn (Or.inr (Or.inr (Or.inr (Or.inr ⟨rfl, ht, hw⟩)))) hd hl
end New
end Jvm.RoadKit
namespace Jvm.Pilot.@@N@@
open Jvm Jvm.ClassFile Sem Op Lib Jvm.Free Jvm.Stand Jvm.LawKit Jvm.RoadKit Bundle Jvm.Pilot.@@N@@.Jvm.D
theorem own_ext {h0 h : Heap} (K : Keep h0 h []) : Ext h0 h := ⟨K.1, fun a c q => K.2.1 a c q nin0⟩

def own_sw (x y : Int32) : Int32 := if (x &&& (255 : Int32)) = (31 : Int32) then (if (y &&& (255 : Int32)) = (139 : Int32) then 1 else 0) else 0
theorem own_n4 (x : Int32) : ((x.toUInt32 >>> ((2 : Int32) &&& 31).toUInt32).toInt32 &&& (3 : Int32)) = (0 : Int32) ∨ ((x.toUInt32 >>> ((2 : Int32) &&& 31).toUInt32).toInt32 &&& (3 : Int32)) = (1 : Int32) ∨ ((x.toUInt32 >>> ((2 : Int32) &&& 31).toUInt32).toInt32 &&& (3 : Int32)) = (2 : Int32) ∨ ((x.toUInt32 >>> ((2 : Int32) &&& 31).toUInt32).toInt32 &&& (3 : Int32)) = (3 : Int32) := by
  generalize (x.toUInt32 >>> ((2 : Int32) &&& 31).toUInt32).toInt32 = y
  have h := c_mask y 3 2 (by decide) (by decide)
  have h1 : (0 : Int32).toInt = 0 := by decide
  have h2 : (1 : Int32).toInt = 1 := by decide
  have h3 : (2 : Int32).toInt = 2 := by decide
  have h4 : (3 : Int32).toInt = 3 := by decide
  simp only [← Int32.toInt_inj, h1, h2, h3, h4]
  omega
theorem own_e31 {b : Int32} (h : -128 ≤ b.toInt ∧ b.toInt < 128) : ((b.toInt8.toInt32 &&& (255 : Int32)) = (31 : Int32)) ↔ b = (31 : Int32) := by
  have h1 := c_mask b.toInt8.toInt32 255 8 (by decide) (by decide)
  have h2 := c_i2b b
  have h3 : (31 : Int32).toInt = 31 := by decide
  simp only [← Int32.toInt_inj, h3]
  omega
theorem own_e139 {b : Int32} (h : -128 ≤ b.toInt ∧ b.toInt < 128) : ((b.toInt8.toInt32 &&& (255 : Int32)) = (139 : Int32)) ↔ b = (-117 : Int32) := by
  have h1 := c_mask b.toInt8.toInt32 255 8 (by decide) (by decide)
  have h2 := c_i2b b
  have h3 : (139 : Int32).toInt = 139 := by decide
  have h4 : (-117 : Int32).toInt = -117 := by decide
  simp only [← Int32.toInt_inj, h3, h4]
  omega
theorem own_byte {b x y : Int32} {P : Prop} [Decidable P] (h : b = if P then x.toInt8.toInt32 else y) (hy : -128 ≤ y.toInt ∧ y.toInt < 128) : -128 ≤ b.toInt ∧ b.toInt < 128 := by
  have h2 := c_i2b x
  rw [h]; split
  · exact h2.2
  · exact hy
theorem own_pn0 : plainName "com/example/stratafile/stratafile/codec/GzipInputStream" = true := by first | (simp [plainName, overriddenIn]; done) | decide +kernel
theorem own_d1_0 : decode prog_45_method_5_code 0 = .ok (.aload_n 0, 1) := by decide +kernel
theorem own_d1_1 : decode prog_45_method_5_code 1 = .ok (.arraylength, 1) := by decide +kernel
theorem own_d1_2 : decode prog_45_method_5_code 2 = .ok (.iconst 2, 1) := by decide +kernel
theorem own_d1_3 : decode prog_45_method_5_code 3 = .ok (.if_icmp .lt 32, 3) := by decide +kernel
theorem own_d1_35 : decode prog_45_method_5_code 35 = .ok (.iconst 0, 1) := by decide +kernel
theorem own_d1_36 : decode prog_45_method_5_code 36 = .ok (.ireturn, 1) := by decide +kernel
def own_Q1_0 (Z : State) (xarr : Addr) (xk : ClassId) (h0 : Heap) (n0 : Nat) (v : Option Value) (h : Heap) (L : List Loc) : Prop := v = some (.int (0 : Int32)) ∧ Fr n0 L ∧ h = h0
theorem own_ef1_0 (m : MethodId) (xarr : Addr) : entryFrame m #[(.ref xarr)] 1 = mkF m 0 #[.val (.ref xarr)] [] := by first | (simp [entryFrame, mkF, argsToLocals, Value.category]; done) | rfl
set_option maxRecDepth 65536 in
set_option maxHeartbeats 40000000 in
theorem own_rm1_0 (l : Launch) (Z : State) (a0 : Array Value) (hw : ∀ d ∈ tables_1, d.before a0 Z = true) (ws : List Jvm.Cond) (xarr : Addr) (xk : ClassId) (h0 : Heap) (n0 : Nat) (Z0 : n0 ≤ h0.size) (A_xarr : Arv Z h0 xarr xk .byte (0 : Int32) [] (.int (0 : Int32))) :
    MetFree l (⟨"com/example/stratafile/stratafile/codec/GzipInputStream", "startsWithMagic", "([B)Z"⟩ : MethodName) (head1 (Jvm.Cond.code (⟨"com/example/stratafile/stratafile/codec/GzipInputStream", "startsWithMagic", "([B)Z"⟩ : MethodName) prog_45_method_5_code 1 (some .boolean) :: ws) ({ frames := 0, cells := 0, slots := 0, locals := 0 } : Room)) (fun a U => a = #[(.ref xarr)] ∧ Z.Warmed39 U.vm ∧ U.heap = h0) (fun _ _ _ _ _ => True) (fun _ U o U' => ∃ v L, o = .returned v ∧ own_Q1_0 Z xarr xk h0 n0 v U'.heap L ∧ FrameEnd U o U' L ({ frames := 0, cells := 0, slots := 0, locals := 0 } : Room).cells ({ frames := 0, cells := 0, slots := 0, locals := 0 } : Room).slots) := by
  refine MetFree.of_bodySF (plainFor_of_name own_pn0) hisR ?_
  intro p e s m args below meth c s₁ Bd hml0 hP hK
  obtain ⟨rfl, hZ, hh⟩ := hP
  have hx := Bd.exec
  have hby := Bd.bytes
  have hml : c.maxLocals = 1 := hml0
  have hown : s.vm.findClass "com/example/stratafile/stratafile/codec/GzipInputStream" = some m.cls := findClass_of_methodNamed Bd.named
  have hnm := (name_of_methodNamed Bd.named Bd.method).1
  have X0 : Stand p l e ({ frames := 0, cells := 0, slots := 0, locals := 0 } : Room) s m #[(.ref xarr)] below meth c s₁ [] 0 0 := Stand.of_body Bd
  have e0 : s₁.heap = h0 := by rw [← hh, Bd.state]; rfl
  have N0 := Fr.nil n0
  have pre0 : ∀ t, Steps p.tables e below (s₁.setTop (mkF m 0 #[.val (.ref xarr)] [])) t → Steps p.tables e below (s₁.setTop (entryFrame m #[(.ref xarr)] 1)) t := fun t k => castTop (own_ef1_0 m xarr) k
  obtain ⟨cl1, Ar1, q1, S1, M1, H1, G1⟩ := id A_xarr
  have hd2 : (0 : Int32) < (2 : Int32) := (by decide)
  obtain ⟨fs, hr, hrun, hended, hW, hsame⟩ := X0.leave (v := some (.int (0 : Int32))) (fun h => by rw [Bd.returns] at h; cases h)
  refine ⟨_, _, pre0 _ ?_, hrun, hended, _, _, rfl, ?_, ⟨_, rfl⟩, hW, hsame.mono (by decide) (by decide)⟩
  · show Steps p.tables e below (s₁.setTop (mkF m 0 #[.val (.ref xarr)] [])) _
    refine XS.aloadN X0.here hx rfl (hb hby own_d1_0) rfl rfl ?_
    show Steps p.tables e below (s₁.setTop (mkF m 1 #[.val (.ref xarr)] [(.ref xarr)])) _
    refine X0.arraylength hx (by rw [e0]; exact Ar1.1) (State.isArrayOf_alike hZ.alike Ar1.2.1) (g := (mkF m 1 #[.val (.ref xarr)] [(.ref xarr)])) rfl rfl (hb hby own_d1_1) _ ?_
    rw [len_of S1 M1]
    show Steps p.tables e below (s₁.setTop (mkF m 2 #[.val (.ref xarr)] [(.int (0 : Int32))])) _
    refine XS.iconst X0.here hx rfl (hb hby own_d1_2) ?_
    show Steps p.tables e below (s₁.setTop (mkF m 3 #[.val (.ref xarr)] [(.int (2 : Int32)), (.int (0 : Int32))])) _
    refine XS.icmpYes X0.here hx rfl (pc0 := 3) (pc' := 35) rfl (hb hby own_d1_3) rfl (tlt hd2).1 (by decide) (by decide) ?_
    show Steps p.tables e below (s₁.setTop (mkF m 35 #[.val (.ref xarr)] [])) _
    refine XS.iconst X0.here hx rfl (hb hby own_d1_35) ?_
    show Steps p.tables e below (s₁.setTop (mkF m 36 #[.val (.ref xarr)] [(.int (0 : Int32))])) _
    exact retN X0 hx (t := .boolean) Bd.returns (by simp) (hb hby own_d1_36) hr
  · show own_Q1_0 Z xarr xk h0 n0 _ s₁.heap _
    rw [e0]
    exact ⟨rfl, N0, rfl⟩
def own_Q1_1 (Z : State) (xarr : Addr) (xk : ClassId) (z0 : Int32) (h0 : Heap) (n0 : Nat) (v : Option Value) (h : Heap) (L : List Loc) : Prop := v = some (.int (0 : Int32)) ∧ Fr n0 L ∧ h = h0
theorem own_ef1_1 (m : MethodId) (xarr : Addr) : entryFrame m #[(.ref xarr)] 1 = mkF m 0 #[.val (.ref xarr)] [] := by first | (simp [entryFrame, mkF, argsToLocals, Value.category]; done) | rfl
set_option maxRecDepth 65536 in
set_option maxHeartbeats 40000000 in
theorem own_rm1_1 (l : Launch) (Z : State) (a0 : Array Value) (hw : ∀ d ∈ tables_1, d.before a0 Z = true) (ws : List Jvm.Cond) (xarr : Addr) (xk : ClassId) (z0 : Int32) (h0 : Heap) (n0 : Nat) (Z0 : n0 ≤ h0.size) (A_xarr : Arv Z h0 xarr xk .byte (1 : Int32) [(.int z0)] (.int (0 : Int32))) :
    MetFree l (⟨"com/example/stratafile/stratafile/codec/GzipInputStream", "startsWithMagic", "([B)Z"⟩ : MethodName) (head1 (Jvm.Cond.code (⟨"com/example/stratafile/stratafile/codec/GzipInputStream", "startsWithMagic", "([B)Z"⟩ : MethodName) prog_45_method_5_code 1 (some .boolean) :: ws) ({ frames := 0, cells := 0, slots := 0, locals := 0 } : Room)) (fun a U => a = #[(.ref xarr)] ∧ Z.Warmed39 U.vm ∧ U.heap = h0) (fun _ _ _ _ _ => True) (fun _ U o U' => ∃ v L, o = .returned v ∧ own_Q1_1 Z xarr xk z0 h0 n0 v U'.heap L ∧ FrameEnd U o U' L ({ frames := 0, cells := 0, slots := 0, locals := 0 } : Room).cells ({ frames := 0, cells := 0, slots := 0, locals := 0 } : Room).slots) := by
  refine MetFree.of_bodySF (plainFor_of_name own_pn0) hisR ?_
  intro p e s m args below meth c s₁ Bd hml0 hP hK
  obtain ⟨rfl, hZ, hh⟩ := hP
  have hx := Bd.exec
  have hby := Bd.bytes
  have hml : c.maxLocals = 1 := hml0
  have hown : s.vm.findClass "com/example/stratafile/stratafile/codec/GzipInputStream" = some m.cls := findClass_of_methodNamed Bd.named
  have hnm := (name_of_methodNamed Bd.named Bd.method).1
  have X0 : Stand p l e ({ frames := 0, cells := 0, slots := 0, locals := 0 } : Room) s m #[(.ref xarr)] below meth c s₁ [] 0 0 := Stand.of_body Bd
  have e0 : s₁.heap = h0 := by rw [← hh, Bd.state]; rfl
  have N0 := Fr.nil n0
  have pre0 : ∀ t, Steps p.tables e below (s₁.setTop (mkF m 0 #[.val (.ref xarr)] [])) t → Steps p.tables e below (s₁.setTop (entryFrame m #[(.ref xarr)] 1)) t := fun t k => castTop (own_ef1_1 m xarr) k
  obtain ⟨cl1, Ar1, q1, S1, M1, H1, G1⟩ := id A_xarr
  have hd2 : (1 : Int32) < (2 : Int32) := (by decide)
  obtain ⟨fs, hr, hrun, hended, hW, hsame⟩ := X0.leave (v := some (.int (0 : Int32))) (fun h => by rw [Bd.returns] at h; cases h)
  refine ⟨_, _, pre0 _ ?_, hrun, hended, _, _, rfl, ?_, ⟨_, rfl⟩, hW, hsame.mono (by decide) (by decide)⟩
  · show Steps p.tables e below (s₁.setTop (mkF m 0 #[.val (.ref xarr)] [])) _
    refine XS.aloadN X0.here hx rfl (hb hby own_d1_0) rfl rfl ?_
    show Steps p.tables e below (s₁.setTop (mkF m 1 #[.val (.ref xarr)] [(.ref xarr)])) _
    refine X0.arraylength hx (by rw [e0]; exact Ar1.1) (State.isArrayOf_alike hZ.alike Ar1.2.1) (g := (mkF m 1 #[.val (.ref xarr)] [(.ref xarr)])) rfl rfl (hb hby own_d1_1) _ ?_
    rw [len_of S1 M1]
    show Steps p.tables e below (s₁.setTop (mkF m 2 #[.val (.ref xarr)] [(.int (1 : Int32))])) _
    refine XS.iconst X0.here hx rfl (hb hby own_d1_2) ?_
    show Steps p.tables e below (s₁.setTop (mkF m 3 #[.val (.ref xarr)] [(.int (2 : Int32)), (.int (1 : Int32))])) _
    refine XS.icmpYes X0.here hx rfl (pc0 := 3) (pc' := 35) rfl (hb hby own_d1_3) rfl (tlt hd2).1 (by decide) (by decide) ?_
    show Steps p.tables e below (s₁.setTop (mkF m 35 #[.val (.ref xarr)] [])) _
    refine XS.iconst X0.here hx rfl (hb hby own_d1_35) ?_
    show Steps p.tables e below (s₁.setTop (mkF m 36 #[.val (.ref xarr)] [(.int (0 : Int32))])) _
    exact retN X0 hx (t := .boolean) Bd.returns (by simp) (hb hby own_d1_36) hr
  · show own_Q1_1 Z xarr xk z0 h0 n0 _ s₁.heap _
    rw [e0]
    exact ⟨rfl, N0, rfl⟩
theorem own_d1_6 : decode prog_45_method_5_code 6 = .ok (.aload_n 0, 1) := by decide +kernel
theorem own_d1_7 : decode prog_45_method_5_code 7 = .ok (.iconst 0, 1) := by decide +kernel
theorem own_d1_8 : decode prog_45_method_5_code 8 = .ok (.baload, 1) := by decide +kernel
theorem own_d1_9 : decode prog_45_method_5_code 9 = .ok (.sipush 255, 3) := by decide +kernel
theorem own_d1_12 : decode prog_45_method_5_code 12 = .ok (.iand, 1) := by decide +kernel
theorem own_d1_13 : decode prog_45_method_5_code 13 = .ok (.bipush 31, 2) := by decide +kernel
theorem own_d1_15 : decode prog_45_method_5_code 15 = .ok (.if_icmp .ne 20, 3) := by decide +kernel
theorem own_d1_18 : decode prog_45_method_5_code 18 = .ok (.aload_n 0, 1) := by decide +kernel
theorem own_d1_19 : decode prog_45_method_5_code 19 = .ok (.iconst 1, 1) := by decide +kernel
theorem own_d1_20 : decode prog_45_method_5_code 20 = .ok (.baload, 1) := by decide +kernel
theorem own_d1_21 : decode prog_45_method_5_code 21 = .ok (.sipush 255, 3) := by decide +kernel
theorem own_d1_24 : decode prog_45_method_5_code 24 = .ok (.iand, 1) := by decide +kernel
theorem own_d1_25 : decode prog_45_method_5_code 25 = .ok (.sipush 139, 3) := by decide +kernel
theorem own_d1_28 : decode prog_45_method_5_code 28 = .ok (.if_icmp .ne 7, 3) := by decide +kernel
theorem own_d1_31 : decode prog_45_method_5_code 31 = .ok (.iconst 1, 1) := by decide +kernel
theorem own_d1_32 : decode prog_45_method_5_code 32 = .ok (.goto 4, 3) := by decide +kernel
def own_Q1_2 (Z : State) (xarr : Addr) (xk : ClassId) (z0 : Int32) (z1 : Int32) (h0 : Heap) (n0 : Nat) (v : Option Value) (h : Heap) (L : List Loc) : Prop := v = some (.int (own_sw z0 z1)) ∧ Fr n0 L ∧ h = h0
theorem own_ef1_2 (m : MethodId) (xarr : Addr) : entryFrame m #[(.ref xarr)] 1 = mkF m 0 #[.val (.ref xarr)] [] := by first | (simp [entryFrame, mkF, argsToLocals, Value.category]; done) | rfl
set_option maxRecDepth 65536 in
set_option maxHeartbeats 40000000 in
theorem own_rm1_2 (l : Launch) (Z : State) (a0 : Array Value) (hw : ∀ d ∈ tables_1, d.before a0 Z = true) (ws : List Jvm.Cond) (xarr : Addr) (xk : ClassId) (z0 : Int32) (z1 : Int32) (h0 : Heap) (n0 : Nat) (Z0 : n0 ≤ h0.size) (A_xarr : Arv Z h0 xarr xk .byte (2 : Int32) [(.int z0), (.int z1)] (.int (0 : Int32))) :
    MetFree l (⟨"com/example/stratafile/stratafile/codec/GzipInputStream", "startsWithMagic", "([B)Z"⟩ : MethodName) (head1 (Jvm.Cond.code (⟨"com/example/stratafile/stratafile/codec/GzipInputStream", "startsWithMagic", "([B)Z"⟩ : MethodName) prog_45_method_5_code 1 (some .boolean) :: ws) ({ frames := 0, cells := 0, slots := 0, locals := 0 } : Room)) (fun a U => a = #[(.ref xarr)] ∧ Z.Warmed39 U.vm ∧ U.heap = h0) (fun _ _ _ _ _ => True) (fun _ U o U' => ∃ v L, o = .returned v ∧ own_Q1_2 Z xarr xk z0 z1 h0 n0 v U'.heap L ∧ FrameEnd U o U' L ({ frames := 0, cells := 0, slots := 0, locals := 0 } : Room).cells ({ frames := 0, cells := 0, slots := 0, locals := 0 } : Room).slots) := by
  refine MetFree.of_bodySF (plainFor_of_name own_pn0) hisR ?_
  intro p e s m args below meth c s₁ Bd hml0 hP hK
  obtain ⟨rfl, hZ, hh⟩ := hP
  have hx := Bd.exec
  have hby := Bd.bytes
  have hml : c.maxLocals = 1 := hml0
  have hown : s.vm.findClass "com/example/stratafile/stratafile/codec/GzipInputStream" = some m.cls := findClass_of_methodNamed Bd.named
  have hnm := (name_of_methodNamed Bd.named Bd.method).1
  have X0 : Stand p l e ({ frames := 0, cells := 0, slots := 0, locals := 0 } : Room) s m #[(.ref xarr)] below meth c s₁ [] 0 0 := Stand.of_body Bd
  have e0 : s₁.heap = h0 := by rw [← hh, Bd.state]; rfl
  have N0 := Fr.nil n0
  have pre0 : ∀ t, Steps p.tables e below (s₁.setTop (mkF m 0 #[.val (.ref xarr)] [])) t → Steps p.tables e below (s₁.setTop (entryFrame m #[(.ref xarr)] 1)) t := fun t k => castTop (own_ef1_2 m xarr) k
  obtain ⟨cl1, Ar1, q1, S1, M1, H1, G1⟩ := id A_xarr
  have hd2 : ¬ ((2 : Int32) < (2 : Int32)) := (by decide)
  obtain ⟨cl3, Ar3, q3, S3, M3, H3, G3⟩ := id A_xarr
  have in3 := inb_of S3 (j := (0 : Int32)) ⟨by decide, by decide⟩
  have pre4 : ∀ t, Steps p.tables e below (s₁.setTop (mkF m 15 #[.val (.ref xarr)] [(.int (31 : Int32)), (.int (z0 &&& (255 : Int32)))])) t → Steps p.tables e below (s₁.setTop (entryFrame m #[(.ref xarr)] 1)) t := by
    intro t k
    refine pre0 _ ?_
    show Steps p.tables e below (s₁.setTop (mkF m 0 #[.val (.ref xarr)] [])) _
    refine XS.aloadN X0.here hx rfl (hb hby own_d1_0) rfl rfl ?_
    show Steps p.tables e below (s₁.setTop (mkF m 1 #[.val (.ref xarr)] [(.ref xarr)])) _
    refine X0.arraylength hx (by rw [e0]; exact Ar1.1) (State.isArrayOf_alike hZ.alike Ar1.2.1) (g := (mkF m 1 #[.val (.ref xarr)] [(.ref xarr)])) rfl rfl (hb hby own_d1_1) _ ?_
    rw [len_of S1 M1]
    show Steps p.tables e below (s₁.setTop (mkF m 2 #[.val (.ref xarr)] [(.int (2 : Int32))])) _
    refine XS.iconst X0.here hx rfl (hb hby own_d1_2) ?_
    show Steps p.tables e below (s₁.setTop (mkF m 3 #[.val (.ref xarr)] [(.int (2 : Int32)), (.int (2 : Int32))])) _
    refine XS.icmpNo X0.here hx rfl (hb hby own_d1_3) rfl (flt hd2).1 ?_
    show Steps p.tables e below (s₁.setTop (mkF m 6 #[.val (.ref xarr)] [])) _
    refine XS.aloadN X0.here hx rfl (hb hby own_d1_6) rfl rfl ?_
    show Steps p.tables e below (s₁.setTop (mkF m 7 #[.val (.ref xarr)] [(.ref xarr)])) _
    refine XS.iconst X0.here hx rfl (hb hby own_d1_7) ?_
    show Steps p.tables e below (s₁.setTop (mkF m 8 #[.val (.ref xarr)] [(.int (0 : Int32)), (.ref xarr)])) _
    refine X0.baloadBytes hx (j := (0 : Int32)) (v := (.int z0)) (by rw [e0]; exact Ar3.1) (State.isArrayOf_alike hZ.alike Ar3.2.1) Ar3.2.2 in3 (H3.at in3 rfl) (g := (mkF m 8 #[.val (.ref xarr)] [(.int (0 : Int32)), (.ref xarr)])) rfl rfl (hb hby own_d1_8) _ ?_
    show Steps p.tables e below (s₁.setTop (mkF m 9 #[.val (.ref xarr)] [(.int z0)])) _
    refine XS.sipush X0.here hx rfl (hb hby own_d1_9) ?_
    show Steps p.tables e below (s₁.setTop (mkF m 12 #[.val (.ref xarr)] [(.int (255 : Int32)), (.int z0)])) _
    refine XS.iand X0.here hx rfl (hb hby own_d1_12) rfl ?_
    show Steps p.tables e below (s₁.setTop (mkF m 13 #[.val (.ref xarr)] [(.int (z0 &&& (255 : Int32)))])) _
    refine XS.bipush X0.here hx rfl (hb hby own_d1_13) ?_
    exact k
  by_cases hc15 : (z0 &&& (255 : Int32)) = (31 : Int32)
  · obtain ⟨cl5, Ar5, q5, S5, M5, H5, G5⟩ := id A_xarr
    have in5 := inb_of S5 (j := (1 : Int32)) ⟨by decide, by decide⟩
    have pre6 : ∀ t, Steps p.tables e below (s₁.setTop (mkF m 28 #[.val (.ref xarr)] [(.int (139 : Int32)), (.int (z1 &&& (255 : Int32)))])) t → Steps p.tables e below (s₁.setTop (entryFrame m #[(.ref xarr)] 1)) t := by
      intro t k
      refine pre4 _ ?_
      show Steps p.tables e below (s₁.setTop (mkF m 15 #[.val (.ref xarr)] [(.int (31 : Int32)), (.int (z0 &&& (255 : Int32)))])) _
      refine XS.icmpNo X0.here hx rfl (hb hby own_d1_15) rfl (teq hc15).2 ?_
      show Steps p.tables e below (s₁.setTop (mkF m 18 #[.val (.ref xarr)] [])) _
      refine XS.aloadN X0.here hx rfl (hb hby own_d1_18) rfl rfl ?_
      show Steps p.tables e below (s₁.setTop (mkF m 19 #[.val (.ref xarr)] [(.ref xarr)])) _
      refine XS.iconst X0.here hx rfl (hb hby own_d1_19) ?_
      show Steps p.tables e below (s₁.setTop (mkF m 20 #[.val (.ref xarr)] [(.int (1 : Int32)), (.ref xarr)])) _
      refine X0.baloadBytes hx (j := (1 : Int32)) (v := (.int z1)) (by rw [e0]; exact Ar5.1) (State.isArrayOf_alike hZ.alike Ar5.2.1) Ar5.2.2 in5 (H5.at in5 rfl) (g := (mkF m 20 #[.val (.ref xarr)] [(.int (1 : Int32)), (.ref xarr)])) rfl rfl (hb hby own_d1_20) _ ?_
      show Steps p.tables e below (s₁.setTop (mkF m 21 #[.val (.ref xarr)] [(.int z1)])) _
      refine XS.sipush X0.here hx rfl (hb hby own_d1_21) ?_
      show Steps p.tables e below (s₁.setTop (mkF m 24 #[.val (.ref xarr)] [(.int (255 : Int32)), (.int z1)])) _
      refine XS.iand X0.here hx rfl (hb hby own_d1_24) rfl ?_
      show Steps p.tables e below (s₁.setTop (mkF m 25 #[.val (.ref xarr)] [(.int (z1 &&& (255 : Int32)))])) _
      refine XS.sipush X0.here hx rfl (hb hby own_d1_25) ?_
      exact k
    by_cases hc28 : (z1 &&& (255 : Int32)) = (139 : Int32)
    · obtain ⟨fs, hr, hrun, hended, hW, hsame⟩ := X0.leave (v := some (.int (1 : Int32))) (fun h => by rw [Bd.returns] at h; cases h)
      have ev7 : (own_sw z0 z1) = (1 : Int32) := by
        simp [own_sw, hc15, hc28]
      refine ⟨_, _, pre6 _ ?_, hrun, hended, _, _, rfl, ?_, ⟨_, rfl⟩, hW, hsame.mono (by decide) (by decide)⟩
      · show Steps p.tables e below (s₁.setTop (mkF m 28 #[.val (.ref xarr)] [(.int (139 : Int32)), (.int (z1 &&& (255 : Int32)))])) _
        refine XS.icmpNo X0.here hx rfl (hb hby own_d1_28) rfl (teq hc28).2 ?_
        show Steps p.tables e below (s₁.setTop (mkF m 31 #[.val (.ref xarr)] [])) _
        refine XS.iconst X0.here hx rfl (hb hby own_d1_31) ?_
        show Steps p.tables e below (s₁.setTop (mkF m 32 #[.val (.ref xarr)] [(.int (1 : Int32))])) _
        refine XS.goto X0.here hx rfl (pc0 := 32) (pc' := 36) rfl (hb hby own_d1_32) (by decide) (by decide) ?_
        show Steps p.tables e below (s₁.setTop (mkF m 36 #[.val (.ref xarr)] [(.int (1 : Int32))])) _
        exact retN X0 hx (t := .boolean) Bd.returns (by simp) (hb hby own_d1_36) hr
      · show own_Q1_2 Z xarr xk z0 z1 h0 n0 _ s₁.heap _
        rw [e0]
        exact ⟨(by rw [ev7]), N0, rfl⟩
    · obtain ⟨fs, hr, hrun, hended, hW, hsame⟩ := X0.leave (v := some (.int (0 : Int32))) (fun h => by rw [Bd.returns] at h; cases h)
      have ev8 : (own_sw z0 z1) = (0 : Int32) := by
        simp [own_sw, hc15, hc28]
      refine ⟨_, _, pre6 _ ?_, hrun, hended, _, _, rfl, ?_, ⟨_, rfl⟩, hW, hsame.mono (by decide) (by decide)⟩
      · show Steps p.tables e below (s₁.setTop (mkF m 28 #[.val (.ref xarr)] [(.int (139 : Int32)), (.int (z1 &&& (255 : Int32)))])) _
        refine XS.icmpYes X0.here hx rfl (pc0 := 28) (pc' := 35) rfl (hb hby own_d1_28) rfl (feq hc28).2 (by decide) (by decide) ?_
        show Steps p.tables e below (s₁.setTop (mkF m 35 #[.val (.ref xarr)] [])) _
        refine XS.iconst X0.here hx rfl (hb hby own_d1_35) ?_
        show Steps p.tables e below (s₁.setTop (mkF m 36 #[.val (.ref xarr)] [(.int (0 : Int32))])) _
        exact retN X0 hx (t := .boolean) Bd.returns (by simp) (hb hby own_d1_36) hr
      · show own_Q1_2 Z xarr xk z0 z1 h0 n0 _ s₁.heap _
        rw [e0]
        exact ⟨(by rw [ev8]), N0, rfl⟩
  · obtain ⟨fs, hr, hrun, hended, hW, hsame⟩ := X0.leave (v := some (.int (0 : Int32))) (fun h => by rw [Bd.returns] at h; cases h)
    have ev9 : (own_sw z0 z1) = (0 : Int32) := by
      simp [own_sw, hc15]
    refine ⟨_, _, pre4 _ ?_, hrun, hended, _, _, rfl, ?_, ⟨_, rfl⟩, hW, hsame.mono (by decide) (by decide)⟩
    · show Steps p.tables e below (s₁.setTop (mkF m 15 #[.val (.ref xarr)] [(.int (31 : Int32)), (.int (z0 &&& (255 : Int32)))])) _
      refine XS.icmpYes X0.here hx rfl (pc0 := 15) (pc' := 35) rfl (hb hby own_d1_15) rfl (feq hc15).2 (by decide) (by decide) ?_
      show Steps p.tables e below (s₁.setTop (mkF m 35 #[.val (.ref xarr)] [])) _
      refine XS.iconst X0.here hx rfl (hb hby own_d1_35) ?_
      show Steps p.tables e below (s₁.setTop (mkF m 36 #[.val (.ref xarr)] [(.int (0 : Int32))])) _
      exact retN X0 hx (t := .boolean) Bd.returns (by simp) (hb hby own_d1_36) hr
    · show own_Q1_2 Z xarr xk z0 z1 h0 n0 _ s₁.heap _
      rw [e0]
      exact ⟨(by rw [ev9]), N0, rfl⟩
def own_Q1_3 (Z : State) (xarr : Addr) (xk : ClassId) (z0 : Int32) (z1 : Int32) (z2 : Int32) (h0 : Heap) (n0 : Nat) (v : Option Value) (h : Heap) (L : List Loc) : Prop := v = some (.int (own_sw z0 z1)) ∧ Fr n0 L ∧ h = h0
theorem own_ef1_3 (m : MethodId) (xarr : Addr) : entryFrame m #[(.ref xarr)] 1 = mkF m 0 #[.val (.ref xarr)] [] := by first | (simp [entryFrame, mkF, argsToLocals, Value.category]; done) | rfl
set_option maxRecDepth 65536 in
set_option maxHeartbeats 40000000 in
theorem own_rm1_3 (l : Launch) (Z : State) (a0 : Array Value) (hw : ∀ d ∈ tables_1, d.before a0 Z = true) (ws : List Jvm.Cond) (xarr : Addr) (xk : ClassId) (z0 : Int32) (z1 : Int32) (z2 : Int32) (h0 : Heap) (n0 : Nat) (Z0 : n0 ≤ h0.size) (A_xarr : Arv Z h0 xarr xk .byte (3 : Int32) [(.int z0), (.int z1), (.int z2)] (.int (0 : Int32))) :
    MetFree l (⟨"com/example/stratafile/stratafile/codec/GzipInputStream", "startsWithMagic", "([B)Z"⟩ : MethodName) (head1 (Jvm.Cond.code (⟨"com/example/stratafile/stratafile/codec/GzipInputStream", "startsWithMagic", "([B)Z"⟩ : MethodName) prog_45_method_5_code 1 (some .boolean) :: ws) ({ frames := 0, cells := 0, slots := 0, locals := 0 } : Room)) (fun a U => a = #[(.ref xarr)] ∧ Z.Warmed39 U.vm ∧ U.heap = h0) (fun _ _ _ _ _ => True) (fun _ U o U' => ∃ v L, o = .returned v ∧ own_Q1_3 Z xarr xk z0 z1 z2 h0 n0 v U'.heap L ∧ FrameEnd U o U' L ({ frames := 0, cells := 0, slots := 0, locals := 0 } : Room).cells ({ frames := 0, cells := 0, slots := 0, locals := 0 } : Room).slots) := by
  refine MetFree.of_bodySF (plainFor_of_name own_pn0) hisR ?_
  intro p e s m args below meth c s₁ Bd hml0 hP hK
  obtain ⟨rfl, hZ, hh⟩ := hP
  have hx := Bd.exec
  have hby := Bd.bytes
  have hml : c.maxLocals = 1 := hml0
  have hown : s.vm.findClass "com/example/stratafile/stratafile/codec/GzipInputStream" = some m.cls := findClass_of_methodNamed Bd.named
  have hnm := (name_of_methodNamed Bd.named Bd.method).1
  have X0 : Stand p l e ({ frames := 0, cells := 0, slots := 0, locals := 0 } : Room) s m #[(.ref xarr)] below meth c s₁ [] 0 0 := Stand.of_body Bd
  have e0 : s₁.heap = h0 := by rw [← hh, Bd.state]; rfl
  have N0 := Fr.nil n0
  have pre0 : ∀ t, Steps p.tables e below (s₁.setTop (mkF m 0 #[.val (.ref xarr)] [])) t → Steps p.tables e below (s₁.setTop (entryFrame m #[(.ref xarr)] 1)) t := fun t k => castTop (own_ef1_3 m xarr) k
  obtain ⟨cl1, Ar1, q1, S1, M1, H1, G1⟩ := id A_xarr
  have hd2 : ¬ ((3 : Int32) < (2 : Int32)) := (by decide)
  obtain ⟨cl3, Ar3, q3, S3, M3, H3, G3⟩ := id A_xarr
  have in3 := inb_of S3 (j := (0 : Int32)) ⟨by decide, by decide⟩
  have pre4 : ∀ t, Steps p.tables e below (s₁.setTop (mkF m 15 #[.val (.ref xarr)] [(.int (31 : Int32)), (.int (z0 &&& (255 : Int32)))])) t → Steps p.tables e below (s₁.setTop (entryFrame m #[(.ref xarr)] 1)) t := by
    intro t k
    refine pre0 _ ?_
    show Steps p.tables e below (s₁.setTop (mkF m 0 #[.val (.ref xarr)] [])) _
    refine XS.aloadN X0.here hx rfl (hb hby own_d1_0) rfl rfl ?_
    show Steps p.tables e below (s₁.setTop (mkF m 1 #[.val (.ref xarr)] [(.ref xarr)])) _
    refine X0.arraylength hx (by rw [e0]; exact Ar1.1) (State.isArrayOf_alike hZ.alike Ar1.2.1) (g := (mkF m 1 #[.val (.ref xarr)] [(.ref xarr)])) rfl rfl (hb hby own_d1_1) _ ?_
    rw [len_of S1 M1]
    show Steps p.tables e below (s₁.setTop (mkF m 2 #[.val (.ref xarr)] [(.int (3 : Int32))])) _
    refine XS.iconst X0.here hx rfl (hb hby own_d1_2) ?_
    show Steps p.tables e below (s₁.setTop (mkF m 3 #[.val (.ref xarr)] [(.int (2 : Int32)), (.int (3 : Int32))])) _
    refine XS.icmpNo X0.here hx rfl (hb hby own_d1_3) rfl (flt hd2).1 ?_
    show Steps p.tables e below (s₁.setTop (mkF m 6 #[.val (.ref xarr)] [])) _
    refine XS.aloadN X0.here hx rfl (hb hby own_d1_6) rfl rfl ?_
    show Steps p.tables e below (s₁.setTop (mkF m 7 #[.val (.ref xarr)] [(.ref xarr)])) _
    refine XS.iconst X0.here hx rfl (hb hby own_d1_7) ?_
    show Steps p.tables e below (s₁.setTop (mkF m 8 #[.val (.ref xarr)] [(.int (0 : Int32)), (.ref xarr)])) _
    refine X0.baloadBytes hx (j := (0 : Int32)) (v := (.int z0)) (by rw [e0]; exact Ar3.1) (State.isArrayOf_alike hZ.alike Ar3.2.1) Ar3.2.2 in3 (H3.at in3 rfl) (g := (mkF m 8 #[.val (.ref xarr)] [(.int (0 : Int32)), (.ref xarr)])) rfl rfl (hb hby own_d1_8) _ ?_
    show Steps p.tables e below (s₁.setTop (mkF m 9 #[.val (.ref xarr)] [(.int z0)])) _
    refine XS.sipush X0.here hx rfl (hb hby own_d1_9) ?_
    show Steps p.tables e below (s₁.setTop (mkF m 12 #[.val (.ref xarr)] [(.int (255 : Int32)), (.int z0)])) _
    refine XS.iand X0.here hx rfl (hb hby own_d1_12) rfl ?_
    show Steps p.tables e below (s₁.setTop (mkF m 13 #[.val (.ref xarr)] [(.int (z0 &&& (255 : Int32)))])) _
    refine XS.bipush X0.here hx rfl (hb hby own_d1_13) ?_
    exact k
  by_cases hc15 : (z0 &&& (255 : Int32)) = (31 : Int32)
  · obtain ⟨cl5, Ar5, q5, S5, M5, H5, G5⟩ := id A_xarr
    have in5 := inb_of S5 (j := (1 : Int32)) ⟨by decide, by decide⟩
    have pre6 : ∀ t, Steps p.tables e below (s₁.setTop (mkF m 28 #[.val (.ref xarr)] [(.int (139 : Int32)), (.int (z1 &&& (255 : Int32)))])) t → Steps p.tables e below (s₁.setTop (entryFrame m #[(.ref xarr)] 1)) t := by
      intro t k
      refine pre4 _ ?_
      show Steps p.tables e below (s₁.setTop (mkF m 15 #[.val (.ref xarr)] [(.int (31 : Int32)), (.int (z0 &&& (255 : Int32)))])) _
      refine XS.icmpNo X0.here hx rfl (hb hby own_d1_15) rfl (teq hc15).2 ?_
      show Steps p.tables e below (s₁.setTop (mkF m 18 #[.val (.ref xarr)] [])) _
      refine XS.aloadN X0.here hx rfl (hb hby own_d1_18) rfl rfl ?_
      show Steps p.tables e below (s₁.setTop (mkF m 19 #[.val (.ref xarr)] [(.ref xarr)])) _
      refine XS.iconst X0.here hx rfl (hb hby own_d1_19) ?_
      show Steps p.tables e below (s₁.setTop (mkF m 20 #[.val (.ref xarr)] [(.int (1 : Int32)), (.ref xarr)])) _
      refine X0.baloadBytes hx (j := (1 : Int32)) (v := (.int z1)) (by rw [e0]; exact Ar5.1) (State.isArrayOf_alike hZ.alike Ar5.2.1) Ar5.2.2 in5 (H5.at in5 rfl) (g := (mkF m 20 #[.val (.ref xarr)] [(.int (1 : Int32)), (.ref xarr)])) rfl rfl (hb hby own_d1_20) _ ?_
      show Steps p.tables e below (s₁.setTop (mkF m 21 #[.val (.ref xarr)] [(.int z1)])) _
      refine XS.sipush X0.here hx rfl (hb hby own_d1_21) ?_
      show Steps p.tables e below (s₁.setTop (mkF m 24 #[.val (.ref xarr)] [(.int (255 : Int32)), (.int z1)])) _
      refine XS.iand X0.here hx rfl (hb hby own_d1_24) rfl ?_
      show Steps p.tables e below (s₁.setTop (mkF m 25 #[.val (.ref xarr)] [(.int (z1 &&& (255 : Int32)))])) _
      refine XS.sipush X0.here hx rfl (hb hby own_d1_25) ?_
      exact k
    by_cases hc28 : (z1 &&& (255 : Int32)) = (139 : Int32)
    · obtain ⟨fs, hr, hrun, hended, hW, hsame⟩ := X0.leave (v := some (.int (1 : Int32))) (fun h => by rw [Bd.returns] at h; cases h)
      have ev7 : (own_sw z0 z1) = (1 : Int32) := by
        simp [own_sw, hc15, hc28]
      refine ⟨_, _, pre6 _ ?_, hrun, hended, _, _, rfl, ?_, ⟨_, rfl⟩, hW, hsame.mono (by decide) (by decide)⟩
      · show Steps p.tables e below (s₁.setTop (mkF m 28 #[.val (.ref xarr)] [(.int (139 : Int32)), (.int (z1 &&& (255 : Int32)))])) _
        refine XS.icmpNo X0.here hx rfl (hb hby own_d1_28) rfl (teq hc28).2 ?_
        show Steps p.tables e below (s₁.setTop (mkF m 31 #[.val (.ref xarr)] [])) _
        refine XS.iconst X0.here hx rfl (hb hby own_d1_31) ?_
        show Steps p.tables e below (s₁.setTop (mkF m 32 #[.val (.ref xarr)] [(.int (1 : Int32))])) _
        refine XS.goto X0.here hx rfl (pc0 := 32) (pc' := 36) rfl (hb hby own_d1_32) (by decide) (by decide) ?_
        show Steps p.tables e below (s₁.setTop (mkF m 36 #[.val (.ref xarr)] [(.int (1 : Int32))])) _
        exact retN X0 hx (t := .boolean) Bd.returns (by simp) (hb hby own_d1_36) hr
      · show own_Q1_3 Z xarr xk z0 z1 z2 h0 n0 _ s₁.heap _
        rw [e0]
        exact ⟨(by rw [ev7]), N0, rfl⟩
    · obtain ⟨fs, hr, hrun, hended, hW, hsame⟩ := X0.leave (v := some (.int (0 : Int32))) (fun h => by rw [Bd.returns] at h; cases h)
      have ev8 : (own_sw z0 z1) = (0 : Int32) := by
        simp [own_sw, hc15, hc28]
      refine ⟨_, _, pre6 _ ?_, hrun, hended, _, _, rfl, ?_, ⟨_, rfl⟩, hW, hsame.mono (by decide) (by decide)⟩
      · show Steps p.tables e below (s₁.setTop (mkF m 28 #[.val (.ref xarr)] [(.int (139 : Int32)), (.int (z1 &&& (255 : Int32)))])) _
        refine XS.icmpYes X0.here hx rfl (pc0 := 28) (pc' := 35) rfl (hb hby own_d1_28) rfl (feq hc28).2 (by decide) (by decide) ?_
        show Steps p.tables e below (s₁.setTop (mkF m 35 #[.val (.ref xarr)] [])) _
        refine XS.iconst X0.here hx rfl (hb hby own_d1_35) ?_
        show Steps p.tables e below (s₁.setTop (mkF m 36 #[.val (.ref xarr)] [(.int (0 : Int32))])) _
        exact retN X0 hx (t := .boolean) Bd.returns (by simp) (hb hby own_d1_36) hr
      · show own_Q1_3 Z xarr xk z0 z1 z2 h0 n0 _ s₁.heap _
        rw [e0]
        exact ⟨(by rw [ev8]), N0, rfl⟩
  · obtain ⟨fs, hr, hrun, hended, hW, hsame⟩ := X0.leave (v := some (.int (0 : Int32))) (fun h => by rw [Bd.returns] at h; cases h)
    have ev9 : (own_sw z0 z1) = (0 : Int32) := by
      simp [own_sw, hc15]
    refine ⟨_, _, pre4 _ ?_, hrun, hended, _, _, rfl, ?_, ⟨_, rfl⟩, hW, hsame.mono (by decide) (by decide)⟩
    · show Steps p.tables e below (s₁.setTop (mkF m 15 #[.val (.ref xarr)] [(.int (31 : Int32)), (.int (z0 &&& (255 : Int32)))])) _
      refine XS.icmpYes X0.here hx rfl (pc0 := 15) (pc' := 35) rfl (hb hby own_d1_15) rfl (feq hc15).2 (by decide) (by decide) ?_
      show Steps p.tables e below (s₁.setTop (mkF m 35 #[.val (.ref xarr)] [])) _
      refine XS.iconst X0.here hx rfl (hb hby own_d1_35) ?_
      show Steps p.tables e below (s₁.setTop (mkF m 36 #[.val (.ref xarr)] [(.int (0 : Int32))])) _
      exact retN X0 hx (t := .boolean) Bd.returns (by simp) (hb hby own_d1_36) hr
    · show own_Q1_3 Z xarr xk z0 z1 z2 h0 n0 _ s₁.heap _
      rw [e0]
      exact ⟨(by rw [ev9]), N0, rfl⟩
theorem own_pn1 : plainName "com/example/stratafile/stratafile/codec/GzipInputStreamStartsWithMagicPinLaw" = true := by first | (simp [plainName, overriddenIn]; done) | decide +kernel
theorem own_pd0 : parseMethodDescriptor "([B)Z" = some ⟨[(.array .byte)], some .boolean⟩ := by decide +kernel
def own_Q0 (Z : State) (y1 : Int32) (y2 : Int32) (y3 : Int32) (y4 : Int32) (h0 : Heap) (n0 : Nat) (v : Option Value) (h : Heap) (L : List Loc) : Prop := v = some (.int (1 : Int32)) ∧ Fr n0 L
theorem own_ef0 (m : MethodId) (y1 : Int32) (y2 : Int32) (y3 : Int32) (y4 : Int32) : entryFrame m #[(.int y1), (.int y2), (.int y3), (.int y4)] maxLocals = mkF m 0 #[.val (.int y1), .val (.int y2), .val (.int y3), .val (.int y4), .unset, .unset, .unset, .unset, .unset, .unset] [] := by first | (simp [entryFrame, mkF, argsToLocals, Value.category, maxLocals]; done) | rfl
set_option maxRecDepth 65536 in
set_option maxHeartbeats 40000000 in
theorem own_rm0 (l : Launch) (Z : State) (a0 : Array Value) (hw : ∀ d ∈ tables_1, d.before a0 Z = true) (ws : List Jvm.Cond) (y1 : Int32) (y2 : Int32) (y3 : Int32) (y4 : Int32) (h0 : Heap) (n0 : Nat) (Z0 : n0 ≤ h0.size)  :
    MetFree l x (head1 (Jvm.Cond.code x code maxLocals ret :: ws) room_1) (fun a U => a = #[(.int y1), (.int y2), (.int y3), (.int y4)] ∧ Z.Warmed39 U.vm ∧ U.heap = h0) (fun _ _ _ _ _ => True) (fun _ U o U' => ∃ v L, o = .returned v ∧ own_Q0 Z y1 y2 y3 y4 h0 n0 v U'.heap L ∧ FrameEnd U o U' L room_1.cells room_1.slots) := by
  refine MetFree.of_bodySF (plainFor_of_name own_pn1) hisR ?_
  intro p e s m args below meth c s₁ Bd hml0 hP hK
  obtain ⟨rfl, hZ, hh⟩ := hP
  have hx := Bd.exec
  have hby := Bd.bytes
  have hml : c.maxLocals = 10 := hml0
  have hown : s.vm.findClass "com/example/stratafile/stratafile/codec/GzipInputStreamStartsWithMagicPinLaw" = some m.cls := findClass_of_methodNamed Bd.named
  have hnm := (name_of_methodNamed Bd.named Bd.method).1
  have X0 : Stand p l e room_1 s m #[(.int y1), (.int y2), (.int y3), (.int y4)] below meth c s₁ [] 0 0 := Stand.of_body Bd
  have e0 : s₁.heap = h0 := by rw [← hh, Bd.state]; rfl
  have N0 := Fr.nil n0
  have pre0 : ∀ t, Steps p.tables e below (s₁.setTop (mkF m 0 #[.val (.int y1), .val (.int y2), .val (.int y3), .val (.int y4), .unset, .unset, .unset, .unset, .unset, .unset] [])) t → Steps p.tables e below (s₁.setTop (entryFrame m #[(.int y1), (.int y2), (.int y3), (.int y4)] maxLocals)) t := fun t k => castTop (own_ef0 m y1 y2 y3 y4) k
  have K0 : Keep h0 h0 [] := Keep.refl _ _
  obtain ⟨v5, hv5⟩ : ∃ w : Int32, w = (((y1.toUInt32 >>> ((2 : Int32) &&& 31).toUInt32).toInt32) &&& (3 : Int32)) := ⟨_, rfl⟩
  have pre1 : ∀ t, Steps p.tables e below (s₁.setTop (mkF m 7 #[.val (.int y1), .val (.int y2), .val (.int y3), .val (.int y4), .val (.int v5), .unset, .unset, .unset, .unset, .unset] [])) t → Steps p.tables e below (s₁.setTop (entryFrame m #[(.int y1), (.int y2), (.int y3), (.int y4)] maxLocals)) t := by
    intro t k
    rw [hv5] at k
    refine pre0 _ ?_
    show Steps p.tables e below (s₁.setTop (mkF m 0 #[.val (.int y1), .val (.int y2), .val (.int y3), .val (.int y4), .unset, .unset, .unset, .unset, .unset, .unset] [])) _
    refine XS.iloadN X0.here hx rfl (hb hby at_0) rfl ?_
    show Steps p.tables e below (s₁.setTop (mkF m 1 #[.val (.int y1), .val (.int y2), .val (.int y3), .val (.int y4), .unset, .unset, .unset, .unset, .unset, .unset] [(.int y1)])) _
    refine XS.iconst X0.here hx rfl (hb hby at_1) ?_
    show Steps p.tables e below (s₁.setTop (mkF m 2 #[.val (.int y1), .val (.int y2), .val (.int y3), .val (.int y4), .unset, .unset, .unset, .unset, .unset, .unset] [(.int (2 : Int32)), (.int y1)])) _
    refine XS.iushr X0.here hx rfl (hb hby at_2) rfl ?_
    show Steps p.tables e below (s₁.setTop (mkF m 3 #[.val (.int y1), .val (.int y2), .val (.int y3), .val (.int y4), .unset, .unset, .unset, .unset, .unset, .unset] [(.int ((y1.toUInt32 >>> ((2 : Int32) &&& 31).toUInt32).toInt32))])) _
    refine XS.iconst X0.here hx rfl (hb hby at_3) ?_
    show Steps p.tables e below (s₁.setTop (mkF m 4 #[.val (.int y1), .val (.int y2), .val (.int y3), .val (.int y4), .unset, .unset, .unset, .unset, .unset, .unset] [(.int (3 : Int32)), (.int ((y1.toUInt32 >>> ((2 : Int32) &&& 31).toUInt32).toInt32))])) _
    refine XS.iand X0.here hx rfl (hb hby at_4) rfl ?_
    show Steps p.tables e below (s₁.setTop (mkF m 5 #[.val (.int y1), .val (.int y2), .val (.int y3), .val (.int y4), .unset, .unset, .unset, .unset, .unset, .unset] [(.int (((y1.toUInt32 >>> ((2 : Int32) &&& 31).toUInt32).toInt32) &&& (3 : Int32)))])) _
    refine XS.istore X0.here hx rfl (hb hby at_5) rfl (l' := #[.val (.int y1), .val (.int y2), .val (.int y3), .val (.int y4), .val (.int (((y1.toUInt32 >>> ((2 : Int32) &&& 31).toUInt32).toInt32) &&& (3 : Int32))), .unset, .unset, .unset, .unset, .unset]) rfl ?_
    exact k
  rcases (hv5 ▸ own_n4 y1 : v5 = (0 : Int32) ∨ v5 = (1 : Int32) ∨ v5 = (2 : Int32) ∨ v5 = (3 : Int32)) with hs_v5 | hs_v5 | hs_v5 | hs_v5
  · subst hs_v5
    have pre2 : ∀ t, Steps p.tables e below (s₁.setTop (mkF m 10 #[.val (.int y1), .val (.int y2), .val (.int y3), .val (.int y4), .val (.int (0 : Int32)), .unset, .unset, .unset, .unset, .unset] [(.int (y1 &&& (1 : Int32)))])) t → Steps p.tables e below (s₁.setTop (entryFrame m #[(.int y1), (.int y2), (.int y3), (.int y4)] maxLocals)) t := by
      intro t k
      refine pre1 _ ?_
      show Steps p.tables e below (s₁.setTop (mkF m 7 #[.val (.int y1), .val (.int y2), .val (.int y3), .val (.int y4), .val (.int (0 : Int32)), .unset, .unset, .unset, .unset, .unset] [])) _
      refine XS.iloadN X0.here hx rfl (hb hby at_7) rfl ?_
      show Steps p.tables e below (s₁.setTop (mkF m 8 #[.val (.int y1), .val (.int y2), .val (.int y3), .val (.int y4), .val (.int (0 : Int32)), .unset, .unset, .unset, .unset, .unset] [(.int y1)])) _
      refine XS.iconst X0.here hx rfl (hb hby at_8) ?_
      show Steps p.tables e below (s₁.setTop (mkF m 9 #[.val (.int y1), .val (.int y2), .val (.int y3), .val (.int y4), .val (.int (0 : Int32)), .unset, .unset, .unset, .unset, .unset] [(.int (1 : Int32)), (.int y1)])) _
      refine XS.iand X0.here hx rfl (hb hby at_9) rfl ?_
      exact k
    obtain ⟨xb0, hxb0⟩ : ∃ w : Int32, w = (if (y1 &&& (1 : Int32)) = (0 : Int32) then (y2.toInt8.toInt32) else (31 : Int32)) := ⟨_, rfl⟩
    have pre3 : ∀ t, Steps p.tables e below (s₁.setTop (mkF m 20 #[.val (.int y1), .val (.int y2), .val (.int y3), .val (.int y4), .val (.int (0 : Int32)), .unset, .unset, .unset, .unset, .unset] [(.int xb0)])) t → Steps p.tables e below (s₁.setTop (entryFrame m #[(.int y1), (.int y2), (.int y3), (.int y4)] maxLocals)) t := by
      intro t k
      refine pre2 _ ?_
      by_cases hm10 : (y1 &&& (1 : Int32)) = (0 : Int32)
      · have hq := hxb0
        rw [if_pos hm10] at hq
        rw [hq] at k
        show Steps p.tables e below (s₁.setTop (mkF m 10 #[.val (.int y1), .val (.int y2), .val (.int y3), .val (.int y4), .val (.int (0 : Int32)), .unset, .unset, .unset, .unset, .unset] [(.int (y1 &&& (1 : Int32)))])) _
        refine XS.ifYes X0.here hx rfl (pc0 := 10) (pc' := 18) rfl (hb hby at_10) rfl ((if0 _ _).trans (teq hm10).1) (by decide) (by decide) ?_
        show Steps p.tables e below (s₁.setTop (mkF m 18 #[.val (.int y1), .val (.int y2), .val (.int y3), .val (.int y4), .val (.int (0 : Int32)), .unset, .unset, .unset, .unset, .unset] [])) _
        refine XS.iloadN X0.here hx rfl (hb hby at_18) rfl ?_
        show Steps p.tables e below (s₁.setTop (mkF m 19 #[.val (.int y1), .val (.int y2), .val (.int y3), .val (.int y4), .val (.int (0 : Int32)), .unset, .unset, .unset, .unset, .unset] [(.int y2)])) _
        refine XS.i2b X0.here hx rfl (hb hby at_19) rfl ?_
        exact k
      · have hq := hxb0
        rw [if_neg hm10] at hq
        rw [hq] at k
        show Steps p.tables e below (s₁.setTop (mkF m 10 #[.val (.int y1), .val (.int y2), .val (.int y3), .val (.int y4), .val (.int (0 : Int32)), .unset, .unset, .unset, .unset, .unset] [(.int (y1 &&& (1 : Int32)))])) _
        refine XS.ifNo X0.here hx rfl (hb hby at_10) rfl ((if0 _ _).trans (feq hm10).1) ?_
        show Steps p.tables e below (s₁.setTop (mkF m 13 #[.val (.int y1), .val (.int y2), .val (.int y3), .val (.int y4), .val (.int (0 : Int32)), .unset, .unset, .unset, .unset, .unset] [])) _
        refine XS.bipush X0.here hx rfl (hb hby at_13) ?_
        show Steps p.tables e below (s₁.setTop (mkF m 15 #[.val (.int y1), .val (.int y2), .val (.int y3), .val (.int y4), .val (.int (0 : Int32)), .unset, .unset, .unset, .unset, .unset] [(.int (31 : Int32))])) _
        refine XS.goto X0.here hx rfl (pc0 := 15) (pc' := 20) rfl (hb hby at_15) (by decide) (by decide) ?_
        exact k
    have pre4 : ∀ t, Steps p.tables e below (s₁.setTop (mkF m 25 #[.val (.int y1), .val (.int y2), .val (.int y3), .val (.int y4), .val (.int (0 : Int32)), .val (.int xb0), .unset, .unset, .unset, .unset] [(.int (y1 &&& (2 : Int32)))])) t → Steps p.tables e below (s₁.setTop (entryFrame m #[(.int y1), (.int y2), (.int y3), (.int y4)] maxLocals)) t := by
      intro t k
      refine pre3 _ ?_
      show Steps p.tables e below (s₁.setTop (mkF m 20 #[.val (.int y1), .val (.int y2), .val (.int y3), .val (.int y4), .val (.int (0 : Int32)), .unset, .unset, .unset, .unset, .unset] [(.int xb0)])) _
      refine XS.istore X0.here hx rfl (hb hby at_20) rfl (l' := #[.val (.int y1), .val (.int y2), .val (.int y3), .val (.int y4), .val (.int (0 : Int32)), .val (.int xb0), .unset, .unset, .unset, .unset]) rfl ?_
      show Steps p.tables e below (s₁.setTop (mkF m 22 #[.val (.int y1), .val (.int y2), .val (.int y3), .val (.int y4), .val (.int (0 : Int32)), .val (.int xb0), .unset, .unset, .unset, .unset] [])) _
      refine XS.iloadN X0.here hx rfl (hb hby at_22) rfl ?_
      show Steps p.tables e below (s₁.setTop (mkF m 23 #[.val (.int y1), .val (.int y2), .val (.int y3), .val (.int y4), .val (.int (0 : Int32)), .val (.int xb0), .unset, .unset, .unset, .unset] [(.int y1)])) _
      refine XS.iconst X0.here hx rfl (hb hby at_23) ?_
      show Steps p.tables e below (s₁.setTop (mkF m 24 #[.val (.int y1), .val (.int y2), .val (.int y3), .val (.int y4), .val (.int (0 : Int32)), .val (.int xb0), .unset, .unset, .unset, .unset] [(.int (2 : Int32)), (.int y1)])) _
      refine XS.iand X0.here hx rfl (hb hby at_24) rfl ?_
      exact k
    obtain ⟨xb1, hxb1⟩ : ∃ w : Int32, w = (if (y1 &&& (2 : Int32)) = (0 : Int32) then (y3.toInt8.toInt32) else (-117 : Int32)) := ⟨_, rfl⟩
    have pre5 : ∀ t, Steps p.tables e below (s₁.setTop (mkF m 35 #[.val (.int y1), .val (.int y2), .val (.int y3), .val (.int y4), .val (.int (0 : Int32)), .val (.int xb0), .unset, .unset, .unset, .unset] [(.int xb1)])) t → Steps p.tables e below (s₁.setTop (entryFrame m #[(.int y1), (.int y2), (.int y3), (.int y4)] maxLocals)) t := by
      intro t k
      refine pre4 _ ?_
      by_cases hm25 : (y1 &&& (2 : Int32)) = (0 : Int32)
      · have hq := hxb1
        rw [if_pos hm25] at hq
        rw [hq] at k
        show Steps p.tables e below (s₁.setTop (mkF m 25 #[.val (.int y1), .val (.int y2), .val (.int y3), .val (.int y4), .val (.int (0 : Int32)), .val (.int xb0), .unset, .unset, .unset, .unset] [(.int (y1 &&& (2 : Int32)))])) _
        refine XS.ifYes X0.here hx rfl (pc0 := 25) (pc' := 33) rfl (hb hby at_25) rfl ((if0 _ _).trans (teq hm25).1) (by decide) (by decide) ?_
        show Steps p.tables e below (s₁.setTop (mkF m 33 #[.val (.int y1), .val (.int y2), .val (.int y3), .val (.int y4), .val (.int (0 : Int32)), .val (.int xb0), .unset, .unset, .unset, .unset] [])) _
        refine XS.iloadN X0.here hx rfl (hb hby at_33) rfl ?_
        show Steps p.tables e below (s₁.setTop (mkF m 34 #[.val (.int y1), .val (.int y2), .val (.int y3), .val (.int y4), .val (.int (0 : Int32)), .val (.int xb0), .unset, .unset, .unset, .unset] [(.int y3)])) _
        refine XS.i2b X0.here hx rfl (hb hby at_34) rfl ?_
        exact k
      · have hq := hxb1
        rw [if_neg hm25] at hq
        rw [hq] at k
        show Steps p.tables e below (s₁.setTop (mkF m 25 #[.val (.int y1), .val (.int y2), .val (.int y3), .val (.int y4), .val (.int (0 : Int32)), .val (.int xb0), .unset, .unset, .unset, .unset] [(.int (y1 &&& (2 : Int32)))])) _
        refine XS.ifNo X0.here hx rfl (hb hby at_25) rfl ((if0 _ _).trans (feq hm25).1) ?_
        show Steps p.tables e below (s₁.setTop (mkF m 28 #[.val (.int y1), .val (.int y2), .val (.int y3), .val (.int y4), .val (.int (0 : Int32)), .val (.int xb0), .unset, .unset, .unset, .unset] [])) _
        refine XS.bipush X0.here hx rfl (hb hby at_28) ?_
        show Steps p.tables e below (s₁.setTop (mkF m 30 #[.val (.int y1), .val (.int y2), .val (.int y3), .val (.int y4), .val (.int (0 : Int32)), .val (.int xb0), .unset, .unset, .unset, .unset] [(.int (-117 : Int32))])) _
        refine XS.goto X0.here hx rfl (pc0 := 30) (pc' := 35) rfl (hb hby at_30) (by decide) (by decide) ?_
        exact k
    obtain ⟨v39, hv39⟩ : ∃ w : Int32, w = (y4.toInt8.toInt32) := ⟨_, rfl⟩
    have pre6 : ∀ t, Steps p.tables e below (s₁.setTop (mkF m 41 #[.val (.int y1), .val (.int y2), .val (.int y3), .val (.int y4), .val (.int (0 : Int32)), .val (.int xb0), .val (.int xb1), .val (.int v39), .unset, .unset] [])) t → Steps p.tables e below (s₁.setTop (entryFrame m #[(.int y1), (.int y2), (.int y3), (.int y4)] maxLocals)) t := by
      intro t k
      rw [hv39] at k
      refine pre5 _ ?_
      show Steps p.tables e below (s₁.setTop (mkF m 35 #[.val (.int y1), .val (.int y2), .val (.int y3), .val (.int y4), .val (.int (0 : Int32)), .val (.int xb0), .unset, .unset, .unset, .unset] [(.int xb1)])) _
      refine XS.istore X0.here hx rfl (hb hby at_35) rfl (l' := #[.val (.int y1), .val (.int y2), .val (.int y3), .val (.int y4), .val (.int (0 : Int32)), .val (.int xb0), .val (.int xb1), .unset, .unset, .unset]) rfl ?_
      show Steps p.tables e below (s₁.setTop (mkF m 37 #[.val (.int y1), .val (.int y2), .val (.int y3), .val (.int y4), .val (.int (0 : Int32)), .val (.int xb0), .val (.int xb1), .unset, .unset, .unset] [])) _
      refine XS.iloadN X0.here hx rfl (hb hby at_37) rfl ?_
      show Steps p.tables e below (s₁.setTop (mkF m 38 #[.val (.int y1), .val (.int y2), .val (.int y3), .val (.int y4), .val (.int (0 : Int32)), .val (.int xb0), .val (.int xb1), .unset, .unset, .unset] [(.int y4)])) _
      refine XS.i2b X0.here hx rfl (hb hby at_38) rfl ?_
      show Steps p.tables e below (s₁.setTop (mkF m 39 #[.val (.int y1), .val (.int y2), .val (.int y3), .val (.int y4), .val (.int (0 : Int32)), .val (.int xb0), .val (.int xb1), .unset, .unset, .unset] [(.int (y4.toInt8.toInt32))])) _
      refine XS.istore X0.here hx rfl (hb hby at_39) rfl (l' := #[.val (.int y1), .val (.int y2), .val (.int y3), .val (.int y4), .val (.int (0 : Int32)), .val (.int xb0), .val (.int xb1), .val (.int (y4.toInt8.toInt32)), .unset, .unset]) rfl ?_
      exact k
    obtain ⟨T7, h7, k7, X7, e7, E7, A7, st7⟩ := newP X0 hx hZ (hw _ (List.mem_of_getElem? (i := 0) rfl)) e0 (g := (mkF m 43 #[.val (.int y1), .val (.int y2), .val (.int y3), .val (.int y4), .val (.int (0 : Int32)), .val (.int xb0), .val (.int xb1), .val (.int v39), .unset, .unset] [(.int (0 : Int32))])) rfl (hb hby at_43) rfl (by decide) (cap := 0) (by decide) (by decide) (by decide) (by decide)
    obtain ⟨b7, g7⟩ : ∃ z, z = h0.size := ⟨_, rfl⟩
    rw [← g7] at A7 st7
    have g_b7 : n0 ≤ b7 := Nat.le_trans Z0 (Nat.le_of_eq g7.symm)
    have sz_b7 : h0.size ≤ b7 := Nat.le_trans K0.1 (Nat.le_of_eq g7.symm)
    have K7 : Keep h0 h7 [] := K0.ext E7
    have Z7 : n0 ≤ h7.size := Nat.le_trans Z0 E7.1
    have F8 : Arv Z h7 b7 k7 .byte (0 : Int32) [] (.int (0 : Int32)) := (Arv.new A7 (by decide)).pad (pad_rep [] (.int (0 : Int32)) 0)
    have hd9 : ¬ ((0 : Int32) < (0 : Int32)) := (by decide)
    have hd10 : ¬ ((1 : Int32) < (0 : Int32)) := (by decide)
    have hd11 : ¬ ((2 : Int32) < (0 : Int32)) := (by decide)
    have hd12 : (0 : Int32) < (2 : Int32) := (by decide)
    obtain ⟨_, _, ⟨T13, L13, k13, n13⟩, -, X13, ⟨Lc13, hQ13, l13, y13, z13⟩, st13⟩ := Jvm.LawKit.callS X7 hx (y := (⟨"com/example/stratafile/stratafile/codec/GzipInputStream", "startsWithMagic", "([B)Z"⟩ : MethodName)) hown (mvT hZ (hw _ (List.mem_of_getElem? (i := 1) rfl))) (mvT hZ (hw _ (List.mem_of_getElem? (i := 2) rfl))) (mvT hZ (hw _ (List.mem_of_getElem? (i := 3) rfl))) (mvT hZ (hw _ (List.mem_of_getElem? (i := 4) rfl))) (by decide) (backOf (W := 0) (own_rm1_0 l Z a0 hw [] b7 k7 h7 n0 Z7 F8) hZ (hw _ (List.mem_of_getElem? (i := 4) rfl)) (hw _ (List.mem_of_getElem? (i := 3) rfl)) (by decide) (by decide)) (g := (mkF m 111 #[.val (.int y1), .val (.int y2), .val (.int y3), .val (.int y4), .val (.int (0 : Int32)), .val (.int xb0), .val (.int xb1), .val (.int v39), .val (.ref b7), .val (.int (0 : Int32))] [(.ref b7)])) rfl (by rw [hml]; rfl) (argsL := [(.ref b7)]) (rest := []) (lenOf own_pd0 rfl) rfl (by show 2 * 0 + _ ≤ _; exact Nat.le_of_eq rfl) (hb hby at_111) (fun _ _ => ⟨rfl, e7, (by decide : 1 + 0 ≤ _), (by decide : 0 + 0 ≤ _)⟩)
    dsimp only [Pt.U, Pt.locs, Pt.cells, Pt.slots] at X13 l13 y13 z13 st13 hQ13
    subst l13 y13 z13
    obtain ⟨rfl, N13q, eh13⟩ := hQ13
    have N13 := Fr.app N0 N13q
    obtain ⟨fs, hr, hrun, hended, hW, hsame⟩ := X13.leave (v := some (.int (1 : Int32))) (fun h => by rw [Bd.returns] at h; cases h)
    refine ⟨_, _, pre6 _ ?_, hrun, hended, _, _, rfl, ?_, ⟨_, rfl⟩, hW, hsame.mono (by decide) (by decide)⟩
    · show Steps p.tables e below (s₁.setTop (mkF m 41 #[.val (.int y1), .val (.int y2), .val (.int y3), .val (.int y4), .val (.int (0 : Int32)), .val (.int xb0), .val (.int xb1), .val (.int v39), .unset, .unset] [])) _
      refine XS.iload X0.here hx rfl (hb hby at_41) rfl ?_
      show Steps p.tables e below (s₁.setTop (mkF m 43 #[.val (.int y1), .val (.int y2), .val (.int y3), .val (.int y4), .val (.int (0 : Int32)), .val (.int xb0), .val (.int xb1), .val (.int v39), .unset, .unset] [(.int (0 : Int32))])) _
      refine st7 _ ?_
      show Steps p.tables e below (T7.setTop (mkF m 45 #[.val (.int y1), .val (.int y2), .val (.int y3), .val (.int y4), .val (.int (0 : Int32)), .val (.int xb0), .val (.int xb1), .val (.int v39), .unset, .unset] [(.ref b7)])) _
      refine XS.astore X7.here hx rfl (hb hby at_45) rfl rfl (l' := #[.val (.int y1), .val (.int y2), .val (.int y3), .val (.int y4), .val (.int (0 : Int32)), .val (.int xb0), .val (.int xb1), .val (.int v39), .val (.ref b7), .unset]) rfl ?_
      show Steps p.tables e below (T7.setTop (mkF m 47 #[.val (.int y1), .val (.int y2), .val (.int y3), .val (.int y4), .val (.int (0 : Int32)), .val (.int xb0), .val (.int xb1), .val (.int v39), .val (.ref b7), .unset] [])) _
      refine XS.iload X7.here hx rfl (hb hby at_47) rfl ?_
      show Steps p.tables e below (T7.setTop (mkF m 49 #[.val (.int y1), .val (.int y2), .val (.int y3), .val (.int y4), .val (.int (0 : Int32)), .val (.int xb0), .val (.int xb1), .val (.int v39), .val (.ref b7), .unset] [(.int (0 : Int32))])) _
      refine XS.ifYes X7.here hx rfl (pc0 := 49) (pc' := 58) rfl (hb hby at_49) rfl ((if0 _ _).trans (flt hd9).2.2.2) (by decide) (by decide) ?_
      show Steps p.tables e below (T7.setTop (mkF m 58 #[.val (.int y1), .val (.int y2), .val (.int y3), .val (.int y4), .val (.int (0 : Int32)), .val (.int xb0), .val (.int xb1), .val (.int v39), .val (.ref b7), .unset] [])) _
      refine XS.iload X7.here hx rfl (hb hby at_58) rfl ?_
      show Steps p.tables e below (T7.setTop (mkF m 60 #[.val (.int y1), .val (.int y2), .val (.int y3), .val (.int y4), .val (.int (0 : Int32)), .val (.int xb0), .val (.int xb1), .val (.int v39), .val (.ref b7), .unset] [(.int (0 : Int32))])) _
      refine XS.iconst X7.here hx rfl (hb hby at_60) ?_
      show Steps p.tables e below (T7.setTop (mkF m 61 #[.val (.int y1), .val (.int y2), .val (.int y3), .val (.int y4), .val (.int (0 : Int32)), .val (.int xb0), .val (.int xb1), .val (.int v39), .val (.ref b7), .unset] [(.int (1 : Int32)), (.int (0 : Int32))])) _
      refine XS.icmpYes X7.here hx rfl (pc0 := 61) (pc' := 70) rfl (hb hby at_61) rfl (flt hd10).2.2.2 (by decide) (by decide) ?_
      show Steps p.tables e below (T7.setTop (mkF m 70 #[.val (.int y1), .val (.int y2), .val (.int y3), .val (.int y4), .val (.int (0 : Int32)), .val (.int xb0), .val (.int xb1), .val (.int v39), .val (.ref b7), .unset] [])) _
      refine XS.iload X7.here hx rfl (hb hby at_70) rfl ?_
      show Steps p.tables e below (T7.setTop (mkF m 72 #[.val (.int y1), .val (.int y2), .val (.int y3), .val (.int y4), .val (.int (0 : Int32)), .val (.int xb0), .val (.int xb1), .val (.int v39), .val (.ref b7), .unset] [(.int (0 : Int32))])) _
      refine XS.iconst X7.here hx rfl (hb hby at_72) ?_
      show Steps p.tables e below (T7.setTop (mkF m 73 #[.val (.int y1), .val (.int y2), .val (.int y3), .val (.int y4), .val (.int (0 : Int32)), .val (.int xb0), .val (.int xb1), .val (.int v39), .val (.ref b7), .unset] [(.int (2 : Int32)), (.int (0 : Int32))])) _
      refine XS.icmpYes X7.here hx rfl (pc0 := 73) (pc' := 82) rfl (hb hby at_73) rfl (flt hd11).2.2.2 (by decide) (by decide) ?_
      show Steps p.tables e below (T7.setTop (mkF m 82 #[.val (.int y1), .val (.int y2), .val (.int y3), .val (.int y4), .val (.int (0 : Int32)), .val (.int xb0), .val (.int xb1), .val (.int v39), .val (.ref b7), .unset] [])) _
      refine XS.iload X7.here hx rfl (hb hby at_82) rfl ?_
      show Steps p.tables e below (T7.setTop (mkF m 84 #[.val (.int y1), .val (.int y2), .val (.int y3), .val (.int y4), .val (.int (0 : Int32)), .val (.int xb0), .val (.int xb1), .val (.int v39), .val (.ref b7), .unset] [(.int (0 : Int32))])) _
      refine XS.iconst X7.here hx rfl (hb hby at_84) ?_
      show Steps p.tables e below (T7.setTop (mkF m 85 #[.val (.int y1), .val (.int y2), .val (.int y3), .val (.int y4), .val (.int (0 : Int32)), .val (.int xb0), .val (.int xb1), .val (.int v39), .val (.ref b7), .unset] [(.int (2 : Int32)), (.int (0 : Int32))])) _
      refine XS.icmpYes X7.here hx rfl (pc0 := 85) (pc' := 106) rfl (hb hby at_85) rfl (tlt hd12).1 (by decide) (by decide) ?_
      show Steps p.tables e below (T7.setTop (mkF m 106 #[.val (.int y1), .val (.int y2), .val (.int y3), .val (.int y4), .val (.int (0 : Int32)), .val (.int xb0), .val (.int xb1), .val (.int v39), .val (.ref b7), .unset] [])) _
      refine XS.iconst X7.here hx rfl (hb hby at_106) ?_
      show Steps p.tables e below (T7.setTop (mkF m 107 #[.val (.int y1), .val (.int y2), .val (.int y3), .val (.int y4), .val (.int (0 : Int32)), .val (.int xb0), .val (.int xb1), .val (.int v39), .val (.ref b7), .unset] [(.int (0 : Int32))])) _
      refine XS.istore X7.here hx rfl (hb hby at_107) rfl (l' := #[.val (.int y1), .val (.int y2), .val (.int y3), .val (.int y4), .val (.int (0 : Int32)), .val (.int xb0), .val (.int xb1), .val (.int v39), .val (.ref b7), .val (.int (0 : Int32))]) rfl ?_
      show Steps p.tables e below (T7.setTop (mkF m 109 #[.val (.int y1), .val (.int y2), .val (.int y3), .val (.int y4), .val (.int (0 : Int32)), .val (.int xb0), .val (.int xb1), .val (.int v39), .val (.ref b7), .val (.int (0 : Int32))] [])) _
      refine XS.aload X7.here hx rfl (hb hby at_109) rfl rfl ?_
      show Steps p.tables e below (T7.setTop (mkF m 111 #[.val (.int y1), .val (.int y2), .val (.int y3), .val (.int y4), .val (.int (0 : Int32)), .val (.int xb0), .val (.int xb1), .val (.int v39), .val (.ref b7), .val (.int (0 : Int32))] [(.ref b7)])) _
      refine st13 _ ?_
      show Steps p.tables e below (T13.setTop (mkF m 114 #[.val (.int y1), .val (.int y2), .val (.int y3), .val (.int y4), .val (.int (0 : Int32)), .val (.int xb0), .val (.int xb1), .val (.int v39), .val (.ref b7), .val (.int (0 : Int32))] [(.int (0 : Int32))])) _
      refine XS.iload X13.here hx rfl (hb hby at_114) rfl ?_
      show Steps p.tables e below (T13.setTop (mkF m 116 #[.val (.int y1), .val (.int y2), .val (.int y3), .val (.int y4), .val (.int (0 : Int32)), .val (.int xb0), .val (.int xb1), .val (.int v39), .val (.ref b7), .val (.int (0 : Int32))] [(.int (0 : Int32)), (.int (0 : Int32))])) _
      refine XS.icmpNo X13.here hx rfl (hb hby at_116) rfl (teq rfl).2 ?_
      show Steps p.tables e below (T13.setTop (mkF m 119 #[.val (.int y1), .val (.int y2), .val (.int y3), .val (.int y4), .val (.int (0 : Int32)), .val (.int xb0), .val (.int xb1), .val (.int v39), .val (.ref b7), .val (.int (0 : Int32))] [])) _
      refine XS.iconst X13.here hx rfl (hb hby at_119) ?_
      show Steps p.tables e below (T13.setTop (mkF m 120 #[.val (.int y1), .val (.int y2), .val (.int y3), .val (.int y4), .val (.int (0 : Int32)), .val (.int xb0), .val (.int xb1), .val (.int v39), .val (.ref b7), .val (.int (0 : Int32))] [(.int (1 : Int32))])) _
      refine XS.goto X13.here hx rfl (pc0 := 120) (pc' := 124) rfl (hb hby at_120) (by decide) (by decide) ?_
      show Steps p.tables e below (T13.setTop (mkF m 124 #[.val (.int y1), .val (.int y2), .val (.int y3), .val (.int y4), .val (.int (0 : Int32)), .val (.int xb0), .val (.int xb1), .val (.int v39), .val (.ref b7), .val (.int (0 : Int32))] [(.int (1 : Int32))])) _
      exact retN X13 hx (t := .boolean) Bd.returns (by simp) (hb hby at_124) hr
    · show own_Q0 Z y1 y2 y3 y4 h0 n0 _ T13.heap _
      rw [eh13]
      exact ⟨rfl, N13⟩
  · subst hs_v5
    have pre14 : ∀ t, Steps p.tables e below (s₁.setTop (mkF m 10 #[.val (.int y1), .val (.int y2), .val (.int y3), .val (.int y4), .val (.int (1 : Int32)), .unset, .unset, .unset, .unset, .unset] [(.int (y1 &&& (1 : Int32)))])) t → Steps p.tables e below (s₁.setTop (entryFrame m #[(.int y1), (.int y2), (.int y3), (.int y4)] maxLocals)) t := by
      intro t k
      refine pre1 _ ?_
      show Steps p.tables e below (s₁.setTop (mkF m 7 #[.val (.int y1), .val (.int y2), .val (.int y3), .val (.int y4), .val (.int (1 : Int32)), .unset, .unset, .unset, .unset, .unset] [])) _
      refine XS.iloadN X0.here hx rfl (hb hby at_7) rfl ?_
      show Steps p.tables e below (s₁.setTop (mkF m 8 #[.val (.int y1), .val (.int y2), .val (.int y3), .val (.int y4), .val (.int (1 : Int32)), .unset, .unset, .unset, .unset, .unset] [(.int y1)])) _
      refine XS.iconst X0.here hx rfl (hb hby at_8) ?_
      show Steps p.tables e below (s₁.setTop (mkF m 9 #[.val (.int y1), .val (.int y2), .val (.int y3), .val (.int y4), .val (.int (1 : Int32)), .unset, .unset, .unset, .unset, .unset] [(.int (1 : Int32)), (.int y1)])) _
      refine XS.iand X0.here hx rfl (hb hby at_9) rfl ?_
      exact k
    obtain ⟨xb0, hxb0⟩ : ∃ w : Int32, w = (if (y1 &&& (1 : Int32)) = (0 : Int32) then (y2.toInt8.toInt32) else (31 : Int32)) := ⟨_, rfl⟩
    have pre15 : ∀ t, Steps p.tables e below (s₁.setTop (mkF m 20 #[.val (.int y1), .val (.int y2), .val (.int y3), .val (.int y4), .val (.int (1 : Int32)), .unset, .unset, .unset, .unset, .unset] [(.int xb0)])) t → Steps p.tables e below (s₁.setTop (entryFrame m #[(.int y1), (.int y2), (.int y3), (.int y4)] maxLocals)) t := by
      intro t k
      refine pre14 _ ?_
      by_cases hm10 : (y1 &&& (1 : Int32)) = (0 : Int32)
      · have hq := hxb0
        rw [if_pos hm10] at hq
        rw [hq] at k
        show Steps p.tables e below (s₁.setTop (mkF m 10 #[.val (.int y1), .val (.int y2), .val (.int y3), .val (.int y4), .val (.int (1 : Int32)), .unset, .unset, .unset, .unset, .unset] [(.int (y1 &&& (1 : Int32)))])) _
        refine XS.ifYes X0.here hx rfl (pc0 := 10) (pc' := 18) rfl (hb hby at_10) rfl ((if0 _ _).trans (teq hm10).1) (by decide) (by decide) ?_
        show Steps p.tables e below (s₁.setTop (mkF m 18 #[.val (.int y1), .val (.int y2), .val (.int y3), .val (.int y4), .val (.int (1 : Int32)), .unset, .unset, .unset, .unset, .unset] [])) _
        refine XS.iloadN X0.here hx rfl (hb hby at_18) rfl ?_
        show Steps p.tables e below (s₁.setTop (mkF m 19 #[.val (.int y1), .val (.int y2), .val (.int y3), .val (.int y4), .val (.int (1 : Int32)), .unset, .unset, .unset, .unset, .unset] [(.int y2)])) _
        refine XS.i2b X0.here hx rfl (hb hby at_19) rfl ?_
        exact k
      · have hq := hxb0
        rw [if_neg hm10] at hq
        rw [hq] at k
        show Steps p.tables e below (s₁.setTop (mkF m 10 #[.val (.int y1), .val (.int y2), .val (.int y3), .val (.int y4), .val (.int (1 : Int32)), .unset, .unset, .unset, .unset, .unset] [(.int (y1 &&& (1 : Int32)))])) _
        refine XS.ifNo X0.here hx rfl (hb hby at_10) rfl ((if0 _ _).trans (feq hm10).1) ?_
        show Steps p.tables e below (s₁.setTop (mkF m 13 #[.val (.int y1), .val (.int y2), .val (.int y3), .val (.int y4), .val (.int (1 : Int32)), .unset, .unset, .unset, .unset, .unset] [])) _
        refine XS.bipush X0.here hx rfl (hb hby at_13) ?_
        show Steps p.tables e below (s₁.setTop (mkF m 15 #[.val (.int y1), .val (.int y2), .val (.int y3), .val (.int y4), .val (.int (1 : Int32)), .unset, .unset, .unset, .unset, .unset] [(.int (31 : Int32))])) _
        refine XS.goto X0.here hx rfl (pc0 := 15) (pc' := 20) rfl (hb hby at_15) (by decide) (by decide) ?_
        exact k
    have pre16 : ∀ t, Steps p.tables e below (s₁.setTop (mkF m 25 #[.val (.int y1), .val (.int y2), .val (.int y3), .val (.int y4), .val (.int (1 : Int32)), .val (.int xb0), .unset, .unset, .unset, .unset] [(.int (y1 &&& (2 : Int32)))])) t → Steps p.tables e below (s₁.setTop (entryFrame m #[(.int y1), (.int y2), (.int y3), (.int y4)] maxLocals)) t := by
      intro t k
      refine pre15 _ ?_
      show Steps p.tables e below (s₁.setTop (mkF m 20 #[.val (.int y1), .val (.int y2), .val (.int y3), .val (.int y4), .val (.int (1 : Int32)), .unset, .unset, .unset, .unset, .unset] [(.int xb0)])) _
      refine XS.istore X0.here hx rfl (hb hby at_20) rfl (l' := #[.val (.int y1), .val (.int y2), .val (.int y3), .val (.int y4), .val (.int (1 : Int32)), .val (.int xb0), .unset, .unset, .unset, .unset]) rfl ?_
      show Steps p.tables e below (s₁.setTop (mkF m 22 #[.val (.int y1), .val (.int y2), .val (.int y3), .val (.int y4), .val (.int (1 : Int32)), .val (.int xb0), .unset, .unset, .unset, .unset] [])) _
      refine XS.iloadN X0.here hx rfl (hb hby at_22) rfl ?_
      show Steps p.tables e below (s₁.setTop (mkF m 23 #[.val (.int y1), .val (.int y2), .val (.int y3), .val (.int y4), .val (.int (1 : Int32)), .val (.int xb0), .unset, .unset, .unset, .unset] [(.int y1)])) _
      refine XS.iconst X0.here hx rfl (hb hby at_23) ?_
      show Steps p.tables e below (s₁.setTop (mkF m 24 #[.val (.int y1), .val (.int y2), .val (.int y3), .val (.int y4), .val (.int (1 : Int32)), .val (.int xb0), .unset, .unset, .unset, .unset] [(.int (2 : Int32)), (.int y1)])) _
      refine XS.iand X0.here hx rfl (hb hby at_24) rfl ?_
      exact k
    obtain ⟨xb1, hxb1⟩ : ∃ w : Int32, w = (if (y1 &&& (2 : Int32)) = (0 : Int32) then (y3.toInt8.toInt32) else (-117 : Int32)) := ⟨_, rfl⟩
    have pre17 : ∀ t, Steps p.tables e below (s₁.setTop (mkF m 35 #[.val (.int y1), .val (.int y2), .val (.int y3), .val (.int y4), .val (.int (1 : Int32)), .val (.int xb0), .unset, .unset, .unset, .unset] [(.int xb1)])) t → Steps p.tables e below (s₁.setTop (entryFrame m #[(.int y1), (.int y2), (.int y3), (.int y4)] maxLocals)) t := by
      intro t k
      refine pre16 _ ?_
      by_cases hm25 : (y1 &&& (2 : Int32)) = (0 : Int32)
      · have hq := hxb1
        rw [if_pos hm25] at hq
        rw [hq] at k
        show Steps p.tables e below (s₁.setTop (mkF m 25 #[.val (.int y1), .val (.int y2), .val (.int y3), .val (.int y4), .val (.int (1 : Int32)), .val (.int xb0), .unset, .unset, .unset, .unset] [(.int (y1 &&& (2 : Int32)))])) _
        refine XS.ifYes X0.here hx rfl (pc0 := 25) (pc' := 33) rfl (hb hby at_25) rfl ((if0 _ _).trans (teq hm25).1) (by decide) (by decide) ?_
        show Steps p.tables e below (s₁.setTop (mkF m 33 #[.val (.int y1), .val (.int y2), .val (.int y3), .val (.int y4), .val (.int (1 : Int32)), .val (.int xb0), .unset, .unset, .unset, .unset] [])) _
        refine XS.iloadN X0.here hx rfl (hb hby at_33) rfl ?_
        show Steps p.tables e below (s₁.setTop (mkF m 34 #[.val (.int y1), .val (.int y2), .val (.int y3), .val (.int y4), .val (.int (1 : Int32)), .val (.int xb0), .unset, .unset, .unset, .unset] [(.int y3)])) _
        refine XS.i2b X0.here hx rfl (hb hby at_34) rfl ?_
        exact k
      · have hq := hxb1
        rw [if_neg hm25] at hq
        rw [hq] at k
        show Steps p.tables e below (s₁.setTop (mkF m 25 #[.val (.int y1), .val (.int y2), .val (.int y3), .val (.int y4), .val (.int (1 : Int32)), .val (.int xb0), .unset, .unset, .unset, .unset] [(.int (y1 &&& (2 : Int32)))])) _
        refine XS.ifNo X0.here hx rfl (hb hby at_25) rfl ((if0 _ _).trans (feq hm25).1) ?_
        show Steps p.tables e below (s₁.setTop (mkF m 28 #[.val (.int y1), .val (.int y2), .val (.int y3), .val (.int y4), .val (.int (1 : Int32)), .val (.int xb0), .unset, .unset, .unset, .unset] [])) _
        refine XS.bipush X0.here hx rfl (hb hby at_28) ?_
        show Steps p.tables e below (s₁.setTop (mkF m 30 #[.val (.int y1), .val (.int y2), .val (.int y3), .val (.int y4), .val (.int (1 : Int32)), .val (.int xb0), .unset, .unset, .unset, .unset] [(.int (-117 : Int32))])) _
        refine XS.goto X0.here hx rfl (pc0 := 30) (pc' := 35) rfl (hb hby at_30) (by decide) (by decide) ?_
        exact k
    obtain ⟨v39, hv39⟩ : ∃ w : Int32, w = (y4.toInt8.toInt32) := ⟨_, rfl⟩
    have pre18 : ∀ t, Steps p.tables e below (s₁.setTop (mkF m 41 #[.val (.int y1), .val (.int y2), .val (.int y3), .val (.int y4), .val (.int (1 : Int32)), .val (.int xb0), .val (.int xb1), .val (.int v39), .unset, .unset] [])) t → Steps p.tables e below (s₁.setTop (entryFrame m #[(.int y1), (.int y2), (.int y3), (.int y4)] maxLocals)) t := by
      intro t k
      rw [hv39] at k
      refine pre17 _ ?_
      show Steps p.tables e below (s₁.setTop (mkF m 35 #[.val (.int y1), .val (.int y2), .val (.int y3), .val (.int y4), .val (.int (1 : Int32)), .val (.int xb0), .unset, .unset, .unset, .unset] [(.int xb1)])) _
      refine XS.istore X0.here hx rfl (hb hby at_35) rfl (l' := #[.val (.int y1), .val (.int y2), .val (.int y3), .val (.int y4), .val (.int (1 : Int32)), .val (.int xb0), .val (.int xb1), .unset, .unset, .unset]) rfl ?_
      show Steps p.tables e below (s₁.setTop (mkF m 37 #[.val (.int y1), .val (.int y2), .val (.int y3), .val (.int y4), .val (.int (1 : Int32)), .val (.int xb0), .val (.int xb1), .unset, .unset, .unset] [])) _
      refine XS.iloadN X0.here hx rfl (hb hby at_37) rfl ?_
      show Steps p.tables e below (s₁.setTop (mkF m 38 #[.val (.int y1), .val (.int y2), .val (.int y3), .val (.int y4), .val (.int (1 : Int32)), .val (.int xb0), .val (.int xb1), .unset, .unset, .unset] [(.int y4)])) _
      refine XS.i2b X0.here hx rfl (hb hby at_38) rfl ?_
      show Steps p.tables e below (s₁.setTop (mkF m 39 #[.val (.int y1), .val (.int y2), .val (.int y3), .val (.int y4), .val (.int (1 : Int32)), .val (.int xb0), .val (.int xb1), .unset, .unset, .unset] [(.int (y4.toInt8.toInt32))])) _
      refine XS.istore X0.here hx rfl (hb hby at_39) rfl (l' := #[.val (.int y1), .val (.int y2), .val (.int y3), .val (.int y4), .val (.int (1 : Int32)), .val (.int xb0), .val (.int xb1), .val (.int (y4.toInt8.toInt32)), .unset, .unset]) rfl ?_
      exact k
    obtain ⟨T19, h19, k19, X19, e19, E19, A19, st19⟩ := newP X0 hx hZ (hw _ (List.mem_of_getElem? (i := 0) rfl)) e0 (g := (mkF m 43 #[.val (.int y1), .val (.int y2), .val (.int y3), .val (.int y4), .val (.int (1 : Int32)), .val (.int xb0), .val (.int xb1), .val (.int v39), .unset, .unset] [(.int (1 : Int32))])) rfl (hb hby at_43) rfl (by decide) (cap := 1) (by decide) (by decide) (by decide) (by decide)
    obtain ⟨b19, g19⟩ : ∃ z, z = h0.size := ⟨_, rfl⟩
    rw [← g19] at A19 st19
    have g_b19 : n0 ≤ b19 := Nat.le_trans Z0 (Nat.le_of_eq g19.symm)
    have sz_b19 : h0.size ≤ b19 := Nat.le_trans K0.1 (Nat.le_of_eq g19.symm)
    have K19 : Keep h0 h19 [] := K0.ext E19
    have Z19 : n0 ≤ h19.size := Nat.le_trans Z0 E19.1
    have F20 : Arv Z h19 b19 k19 .byte (1 : Int32) [(.int (0 : Int32))] (.int (0 : Int32)) := (Arv.new A19 (by decide)).pad (pad_rep [] (.int (0 : Int32)) 1)
    have hd21 : (0 : Int32) < (1 : Int32) := (by decide)
    obtain ⟨cl22, Ar22, q22, S22, M22, H22, G22⟩ := id F20
    obtain ⟨T23, h23, X23, e23, W23, st23⟩ := stB X19 hx hZ e19 Ar22 (j := (0 : Int32)) (inb_of S22 ⟨by decide, by decide⟩) (g := (mkF m 57 #[.val (.int y1), .val (.int y2), .val (.int y3), .val (.int y4), .val (.int (1 : Int32)), .val (.int xb0), .val (.int xb1), .val (.int v39), .val (.ref b19), .unset] [(.int xb0), (.int (0 : Int32)), (.ref b19)])) rfl rfl (hb hby at_57)
    have F24 : Arv Z h23 b19 k19 .byte (1 : Int32) [(.int (xb0.toInt8.toInt32))] (.int (0 : Int32)) := Arv.set Ar22 q22 S22 M22 H22 G22 (fits_nar_byte _) W23 0 rfl (Nat.le_of_ble_eq_true rfl)
    have N23 := Fr.snoc X23 N0 g_b19
    have Z23 : n0 ≤ h23.size := Nat.le_trans Z19 (Keep.of_wr W23).1
    have K23 : Keep h0 h23 [] := K19.wr W23 (Or.inr sz_b19)
    have hd25 : ¬ ((1 : Int32) < (1 : Int32)) := (by decide)
    have hd26 : ¬ ((2 : Int32) < (1 : Int32)) := (by decide)
    have hd27 : (1 : Int32) < (2 : Int32) := (by decide)
    obtain ⟨_, _, ⟨T28, L28, k28, n28⟩, -, X28, ⟨Lc28, hQ28, l28, y28, z28⟩, st28⟩ := Jvm.LawKit.callS X23 hx (y := (⟨"com/example/stratafile/stratafile/codec/GzipInputStream", "startsWithMagic", "([B)Z"⟩ : MethodName)) hown (mvT hZ (hw _ (List.mem_of_getElem? (i := 1) rfl))) (mvT hZ (hw _ (List.mem_of_getElem? (i := 2) rfl))) (mvT hZ (hw _ (List.mem_of_getElem? (i := 3) rfl))) (mvT hZ (hw _ (List.mem_of_getElem? (i := 4) rfl))) (by decide) (backOf (W := 0) (own_rm1_1 l Z a0 hw [] b19 k19 (xb0.toInt8.toInt32) h23 n0 Z23 F24) hZ (hw _ (List.mem_of_getElem? (i := 4) rfl)) (hw _ (List.mem_of_getElem? (i := 3) rfl)) (by decide) (by decide)) (g := (mkF m 111 #[.val (.int y1), .val (.int y2), .val (.int y3), .val (.int y4), .val (.int (1 : Int32)), .val (.int xb0), .val (.int xb1), .val (.int v39), .val (.ref b19), .val (.int (0 : Int32))] [(.ref b19)])) rfl (by rw [hml]; rfl) (argsL := [(.ref b19)]) (rest := []) (lenOf own_pd0 rfl) rfl (by show 2 * 0 + _ ≤ _; exact Nat.le_of_eq rfl) (hb hby at_111) (fun _ _ => ⟨rfl, e23, (by decide : 1 + 0 ≤ _), (by decide : 1 + 0 ≤ _)⟩)
    dsimp only [Pt.U, Pt.locs, Pt.cells, Pt.slots] at X28 l28 y28 z28 st28 hQ28
    subst l28 y28 z28
    obtain ⟨rfl, N28q, eh28⟩ := hQ28
    have N28 := Fr.app N23 N28q
    obtain ⟨fs, hr, hrun, hended, hW, hsame⟩ := X28.leave (v := some (.int (1 : Int32))) (fun h => by rw [Bd.returns] at h; cases h)
    refine ⟨_, _, pre18 _ ?_, hrun, hended, _, _, rfl, ?_, ⟨_, rfl⟩, hW, hsame.mono (by decide) (by decide)⟩
    · show Steps p.tables e below (s₁.setTop (mkF m 41 #[.val (.int y1), .val (.int y2), .val (.int y3), .val (.int y4), .val (.int (1 : Int32)), .val (.int xb0), .val (.int xb1), .val (.int v39), .unset, .unset] [])) _
      refine XS.iload X0.here hx rfl (hb hby at_41) rfl ?_
      show Steps p.tables e below (s₁.setTop (mkF m 43 #[.val (.int y1), .val (.int y2), .val (.int y3), .val (.int y4), .val (.int (1 : Int32)), .val (.int xb0), .val (.int xb1), .val (.int v39), .unset, .unset] [(.int (1 : Int32))])) _
      refine st19 _ ?_
      show Steps p.tables e below (T19.setTop (mkF m 45 #[.val (.int y1), .val (.int y2), .val (.int y3), .val (.int y4), .val (.int (1 : Int32)), .val (.int xb0), .val (.int xb1), .val (.int v39), .unset, .unset] [(.ref b19)])) _
      refine XS.astore X19.here hx rfl (hb hby at_45) rfl rfl (l' := #[.val (.int y1), .val (.int y2), .val (.int y3), .val (.int y4), .val (.int (1 : Int32)), .val (.int xb0), .val (.int xb1), .val (.int v39), .val (.ref b19), .unset]) rfl ?_
      show Steps p.tables e below (T19.setTop (mkF m 47 #[.val (.int y1), .val (.int y2), .val (.int y3), .val (.int y4), .val (.int (1 : Int32)), .val (.int xb0), .val (.int xb1), .val (.int v39), .val (.ref b19), .unset] [])) _
      refine XS.iload X19.here hx rfl (hb hby at_47) rfl ?_
      show Steps p.tables e below (T19.setTop (mkF m 49 #[.val (.int y1), .val (.int y2), .val (.int y3), .val (.int y4), .val (.int (1 : Int32)), .val (.int xb0), .val (.int xb1), .val (.int v39), .val (.ref b19), .unset] [(.int (1 : Int32))])) _
      refine XS.ifNo X19.here hx rfl (hb hby at_49) rfl ((if0 _ _).trans (tlt hd21).2.2.2) ?_
      show Steps p.tables e below (T19.setTop (mkF m 52 #[.val (.int y1), .val (.int y2), .val (.int y3), .val (.int y4), .val (.int (1 : Int32)), .val (.int xb0), .val (.int xb1), .val (.int v39), .val (.ref b19), .unset] [])) _
      refine XS.aload X19.here hx rfl (hb hby at_52) rfl rfl ?_
      show Steps p.tables e below (T19.setTop (mkF m 54 #[.val (.int y1), .val (.int y2), .val (.int y3), .val (.int y4), .val (.int (1 : Int32)), .val (.int xb0), .val (.int xb1), .val (.int v39), .val (.ref b19), .unset] [(.ref b19)])) _
      refine XS.iconst X19.here hx rfl (hb hby at_54) ?_
      show Steps p.tables e below (T19.setTop (mkF m 55 #[.val (.int y1), .val (.int y2), .val (.int y3), .val (.int y4), .val (.int (1 : Int32)), .val (.int xb0), .val (.int xb1), .val (.int v39), .val (.ref b19), .unset] [(.int (0 : Int32)), (.ref b19)])) _
      refine XS.iload X19.here hx rfl (hb hby at_55) rfl ?_
      show Steps p.tables e below (T19.setTop (mkF m 57 #[.val (.int y1), .val (.int y2), .val (.int y3), .val (.int y4), .val (.int (1 : Int32)), .val (.int xb0), .val (.int xb1), .val (.int v39), .val (.ref b19), .unset] [(.int xb0), (.int (0 : Int32)), (.ref b19)])) _
      refine st23 _ ?_
      show Steps p.tables e below (T23.setTop (mkF m 58 #[.val (.int y1), .val (.int y2), .val (.int y3), .val (.int y4), .val (.int (1 : Int32)), .val (.int xb0), .val (.int xb1), .val (.int v39), .val (.ref b19), .unset] [])) _
      refine XS.iload X23.here hx rfl (hb hby at_58) rfl ?_
      show Steps p.tables e below (T23.setTop (mkF m 60 #[.val (.int y1), .val (.int y2), .val (.int y3), .val (.int y4), .val (.int (1 : Int32)), .val (.int xb0), .val (.int xb1), .val (.int v39), .val (.ref b19), .unset] [(.int (1 : Int32))])) _
      refine XS.iconst X23.here hx rfl (hb hby at_60) ?_
      show Steps p.tables e below (T23.setTop (mkF m 61 #[.val (.int y1), .val (.int y2), .val (.int y3), .val (.int y4), .val (.int (1 : Int32)), .val (.int xb0), .val (.int xb1), .val (.int v39), .val (.ref b19), .unset] [(.int (1 : Int32)), (.int (1 : Int32))])) _
      refine XS.icmpYes X23.here hx rfl (pc0 := 61) (pc' := 70) rfl (hb hby at_61) rfl (flt hd25).2.2.2 (by decide) (by decide) ?_
      show Steps p.tables e below (T23.setTop (mkF m 70 #[.val (.int y1), .val (.int y2), .val (.int y3), .val (.int y4), .val (.int (1 : Int32)), .val (.int xb0), .val (.int xb1), .val (.int v39), .val (.ref b19), .unset] [])) _
      refine XS.iload X23.here hx rfl (hb hby at_70) rfl ?_
      show Steps p.tables e below (T23.setTop (mkF m 72 #[.val (.int y1), .val (.int y2), .val (.int y3), .val (.int y4), .val (.int (1 : Int32)), .val (.int xb0), .val (.int xb1), .val (.int v39), .val (.ref b19), .unset] [(.int (1 : Int32))])) _
      refine XS.iconst X23.here hx rfl (hb hby at_72) ?_
      show Steps p.tables e below (T23.setTop (mkF m 73 #[.val (.int y1), .val (.int y2), .val (.int y3), .val (.int y4), .val (.int (1 : Int32)), .val (.int xb0), .val (.int xb1), .val (.int v39), .val (.ref b19), .unset] [(.int (2 : Int32)), (.int (1 : Int32))])) _
      refine XS.icmpYes X23.here hx rfl (pc0 := 73) (pc' := 82) rfl (hb hby at_73) rfl (flt hd26).2.2.2 (by decide) (by decide) ?_
      show Steps p.tables e below (T23.setTop (mkF m 82 #[.val (.int y1), .val (.int y2), .val (.int y3), .val (.int y4), .val (.int (1 : Int32)), .val (.int xb0), .val (.int xb1), .val (.int v39), .val (.ref b19), .unset] [])) _
      refine XS.iload X23.here hx rfl (hb hby at_82) rfl ?_
      show Steps p.tables e below (T23.setTop (mkF m 84 #[.val (.int y1), .val (.int y2), .val (.int y3), .val (.int y4), .val (.int (1 : Int32)), .val (.int xb0), .val (.int xb1), .val (.int v39), .val (.ref b19), .unset] [(.int (1 : Int32))])) _
      refine XS.iconst X23.here hx rfl (hb hby at_84) ?_
      show Steps p.tables e below (T23.setTop (mkF m 85 #[.val (.int y1), .val (.int y2), .val (.int y3), .val (.int y4), .val (.int (1 : Int32)), .val (.int xb0), .val (.int xb1), .val (.int v39), .val (.ref b19), .unset] [(.int (2 : Int32)), (.int (1 : Int32))])) _
      refine XS.icmpYes X23.here hx rfl (pc0 := 85) (pc' := 106) rfl (hb hby at_85) rfl (tlt hd27).1 (by decide) (by decide) ?_
      show Steps p.tables e below (T23.setTop (mkF m 106 #[.val (.int y1), .val (.int y2), .val (.int y3), .val (.int y4), .val (.int (1 : Int32)), .val (.int xb0), .val (.int xb1), .val (.int v39), .val (.ref b19), .unset] [])) _
      refine XS.iconst X23.here hx rfl (hb hby at_106) ?_
      show Steps p.tables e below (T23.setTop (mkF m 107 #[.val (.int y1), .val (.int y2), .val (.int y3), .val (.int y4), .val (.int (1 : Int32)), .val (.int xb0), .val (.int xb1), .val (.int v39), .val (.ref b19), .unset] [(.int (0 : Int32))])) _
      refine XS.istore X23.here hx rfl (hb hby at_107) rfl (l' := #[.val (.int y1), .val (.int y2), .val (.int y3), .val (.int y4), .val (.int (1 : Int32)), .val (.int xb0), .val (.int xb1), .val (.int v39), .val (.ref b19), .val (.int (0 : Int32))]) rfl ?_
      show Steps p.tables e below (T23.setTop (mkF m 109 #[.val (.int y1), .val (.int y2), .val (.int y3), .val (.int y4), .val (.int (1 : Int32)), .val (.int xb0), .val (.int xb1), .val (.int v39), .val (.ref b19), .val (.int (0 : Int32))] [])) _
      refine XS.aload X23.here hx rfl (hb hby at_109) rfl rfl ?_
      show Steps p.tables e below (T23.setTop (mkF m 111 #[.val (.int y1), .val (.int y2), .val (.int y3), .val (.int y4), .val (.int (1 : Int32)), .val (.int xb0), .val (.int xb1), .val (.int v39), .val (.ref b19), .val (.int (0 : Int32))] [(.ref b19)])) _
      refine st28 _ ?_
      show Steps p.tables e below (T28.setTop (mkF m 114 #[.val (.int y1), .val (.int y2), .val (.int y3), .val (.int y4), .val (.int (1 : Int32)), .val (.int xb0), .val (.int xb1), .val (.int v39), .val (.ref b19), .val (.int (0 : Int32))] [(.int (0 : Int32))])) _
      refine XS.iload X28.here hx rfl (hb hby at_114) rfl ?_
      show Steps p.tables e below (T28.setTop (mkF m 116 #[.val (.int y1), .val (.int y2), .val (.int y3), .val (.int y4), .val (.int (1 : Int32)), .val (.int xb0), .val (.int xb1), .val (.int v39), .val (.ref b19), .val (.int (0 : Int32))] [(.int (0 : Int32)), (.int (0 : Int32))])) _
      refine XS.icmpNo X28.here hx rfl (hb hby at_116) rfl (teq rfl).2 ?_
      show Steps p.tables e below (T28.setTop (mkF m 119 #[.val (.int y1), .val (.int y2), .val (.int y3), .val (.int y4), .val (.int (1 : Int32)), .val (.int xb0), .val (.int xb1), .val (.int v39), .val (.ref b19), .val (.int (0 : Int32))] [])) _
      refine XS.iconst X28.here hx rfl (hb hby at_119) ?_
      show Steps p.tables e below (T28.setTop (mkF m 120 #[.val (.int y1), .val (.int y2), .val (.int y3), .val (.int y4), .val (.int (1 : Int32)), .val (.int xb0), .val (.int xb1), .val (.int v39), .val (.ref b19), .val (.int (0 : Int32))] [(.int (1 : Int32))])) _
      refine XS.goto X28.here hx rfl (pc0 := 120) (pc' := 124) rfl (hb hby at_120) (by decide) (by decide) ?_
      show Steps p.tables e below (T28.setTop (mkF m 124 #[.val (.int y1), .val (.int y2), .val (.int y3), .val (.int y4), .val (.int (1 : Int32)), .val (.int xb0), .val (.int xb1), .val (.int v39), .val (.ref b19), .val (.int (0 : Int32))] [(.int (1 : Int32))])) _
      exact retN X28 hx (t := .boolean) Bd.returns (by simp) (hb hby at_124) hr
    · show own_Q0 Z y1 y2 y3 y4 h0 n0 _ T28.heap _
      rw [eh28]
      exact ⟨rfl, N28⟩
  · subst hs_v5
    have pre29 : ∀ t, Steps p.tables e below (s₁.setTop (mkF m 10 #[.val (.int y1), .val (.int y2), .val (.int y3), .val (.int y4), .val (.int (2 : Int32)), .unset, .unset, .unset, .unset, .unset] [(.int (y1 &&& (1 : Int32)))])) t → Steps p.tables e below (s₁.setTop (entryFrame m #[(.int y1), (.int y2), (.int y3), (.int y4)] maxLocals)) t := by
      intro t k
      refine pre1 _ ?_
      show Steps p.tables e below (s₁.setTop (mkF m 7 #[.val (.int y1), .val (.int y2), .val (.int y3), .val (.int y4), .val (.int (2 : Int32)), .unset, .unset, .unset, .unset, .unset] [])) _
      refine XS.iloadN X0.here hx rfl (hb hby at_7) rfl ?_
      show Steps p.tables e below (s₁.setTop (mkF m 8 #[.val (.int y1), .val (.int y2), .val (.int y3), .val (.int y4), .val (.int (2 : Int32)), .unset, .unset, .unset, .unset, .unset] [(.int y1)])) _
      refine XS.iconst X0.here hx rfl (hb hby at_8) ?_
      show Steps p.tables e below (s₁.setTop (mkF m 9 #[.val (.int y1), .val (.int y2), .val (.int y3), .val (.int y4), .val (.int (2 : Int32)), .unset, .unset, .unset, .unset, .unset] [(.int (1 : Int32)), (.int y1)])) _
      refine XS.iand X0.here hx rfl (hb hby at_9) rfl ?_
      exact k
    obtain ⟨xb0, hxb0⟩ : ∃ w : Int32, w = (if (y1 &&& (1 : Int32)) = (0 : Int32) then (y2.toInt8.toInt32) else (31 : Int32)) := ⟨_, rfl⟩
    have pre30 : ∀ t, Steps p.tables e below (s₁.setTop (mkF m 20 #[.val (.int y1), .val (.int y2), .val (.int y3), .val (.int y4), .val (.int (2 : Int32)), .unset, .unset, .unset, .unset, .unset] [(.int xb0)])) t → Steps p.tables e below (s₁.setTop (entryFrame m #[(.int y1), (.int y2), (.int y3), (.int y4)] maxLocals)) t := by
      intro t k
      refine pre29 _ ?_
      by_cases hm10 : (y1 &&& (1 : Int32)) = (0 : Int32)
      · have hq := hxb0
        rw [if_pos hm10] at hq
        rw [hq] at k
        show Steps p.tables e below (s₁.setTop (mkF m 10 #[.val (.int y1), .val (.int y2), .val (.int y3), .val (.int y4), .val (.int (2 : Int32)), .unset, .unset, .unset, .unset, .unset] [(.int (y1 &&& (1 : Int32)))])) _
        refine XS.ifYes X0.here hx rfl (pc0 := 10) (pc' := 18) rfl (hb hby at_10) rfl ((if0 _ _).trans (teq hm10).1) (by decide) (by decide) ?_
        show Steps p.tables e below (s₁.setTop (mkF m 18 #[.val (.int y1), .val (.int y2), .val (.int y3), .val (.int y4), .val (.int (2 : Int32)), .unset, .unset, .unset, .unset, .unset] [])) _
        refine XS.iloadN X0.here hx rfl (hb hby at_18) rfl ?_
        show Steps p.tables e below (s₁.setTop (mkF m 19 #[.val (.int y1), .val (.int y2), .val (.int y3), .val (.int y4), .val (.int (2 : Int32)), .unset, .unset, .unset, .unset, .unset] [(.int y2)])) _
        refine XS.i2b X0.here hx rfl (hb hby at_19) rfl ?_
        exact k
      · have hq := hxb0
        rw [if_neg hm10] at hq
        rw [hq] at k
        show Steps p.tables e below (s₁.setTop (mkF m 10 #[.val (.int y1), .val (.int y2), .val (.int y3), .val (.int y4), .val (.int (2 : Int32)), .unset, .unset, .unset, .unset, .unset] [(.int (y1 &&& (1 : Int32)))])) _
        refine XS.ifNo X0.here hx rfl (hb hby at_10) rfl ((if0 _ _).trans (feq hm10).1) ?_
        show Steps p.tables e below (s₁.setTop (mkF m 13 #[.val (.int y1), .val (.int y2), .val (.int y3), .val (.int y4), .val (.int (2 : Int32)), .unset, .unset, .unset, .unset, .unset] [])) _
        refine XS.bipush X0.here hx rfl (hb hby at_13) ?_
        show Steps p.tables e below (s₁.setTop (mkF m 15 #[.val (.int y1), .val (.int y2), .val (.int y3), .val (.int y4), .val (.int (2 : Int32)), .unset, .unset, .unset, .unset, .unset] [(.int (31 : Int32))])) _
        refine XS.goto X0.here hx rfl (pc0 := 15) (pc' := 20) rfl (hb hby at_15) (by decide) (by decide) ?_
        exact k
    have pre31 : ∀ t, Steps p.tables e below (s₁.setTop (mkF m 25 #[.val (.int y1), .val (.int y2), .val (.int y3), .val (.int y4), .val (.int (2 : Int32)), .val (.int xb0), .unset, .unset, .unset, .unset] [(.int (y1 &&& (2 : Int32)))])) t → Steps p.tables e below (s₁.setTop (entryFrame m #[(.int y1), (.int y2), (.int y3), (.int y4)] maxLocals)) t := by
      intro t k
      refine pre30 _ ?_
      show Steps p.tables e below (s₁.setTop (mkF m 20 #[.val (.int y1), .val (.int y2), .val (.int y3), .val (.int y4), .val (.int (2 : Int32)), .unset, .unset, .unset, .unset, .unset] [(.int xb0)])) _
      refine XS.istore X0.here hx rfl (hb hby at_20) rfl (l' := #[.val (.int y1), .val (.int y2), .val (.int y3), .val (.int y4), .val (.int (2 : Int32)), .val (.int xb0), .unset, .unset, .unset, .unset]) rfl ?_
      show Steps p.tables e below (s₁.setTop (mkF m 22 #[.val (.int y1), .val (.int y2), .val (.int y3), .val (.int y4), .val (.int (2 : Int32)), .val (.int xb0), .unset, .unset, .unset, .unset] [])) _
      refine XS.iloadN X0.here hx rfl (hb hby at_22) rfl ?_
      show Steps p.tables e below (s₁.setTop (mkF m 23 #[.val (.int y1), .val (.int y2), .val (.int y3), .val (.int y4), .val (.int (2 : Int32)), .val (.int xb0), .unset, .unset, .unset, .unset] [(.int y1)])) _
      refine XS.iconst X0.here hx rfl (hb hby at_23) ?_
      show Steps p.tables e below (s₁.setTop (mkF m 24 #[.val (.int y1), .val (.int y2), .val (.int y3), .val (.int y4), .val (.int (2 : Int32)), .val (.int xb0), .unset, .unset, .unset, .unset] [(.int (2 : Int32)), (.int y1)])) _
      refine XS.iand X0.here hx rfl (hb hby at_24) rfl ?_
      exact k
    obtain ⟨xb1, hxb1⟩ : ∃ w : Int32, w = (if (y1 &&& (2 : Int32)) = (0 : Int32) then (y3.toInt8.toInt32) else (-117 : Int32)) := ⟨_, rfl⟩
    have pre32 : ∀ t, Steps p.tables e below (s₁.setTop (mkF m 35 #[.val (.int y1), .val (.int y2), .val (.int y3), .val (.int y4), .val (.int (2 : Int32)), .val (.int xb0), .unset, .unset, .unset, .unset] [(.int xb1)])) t → Steps p.tables e below (s₁.setTop (entryFrame m #[(.int y1), (.int y2), (.int y3), (.int y4)] maxLocals)) t := by
      intro t k
      refine pre31 _ ?_
      by_cases hm25 : (y1 &&& (2 : Int32)) = (0 : Int32)
      · have hq := hxb1
        rw [if_pos hm25] at hq
        rw [hq] at k
        show Steps p.tables e below (s₁.setTop (mkF m 25 #[.val (.int y1), .val (.int y2), .val (.int y3), .val (.int y4), .val (.int (2 : Int32)), .val (.int xb0), .unset, .unset, .unset, .unset] [(.int (y1 &&& (2 : Int32)))])) _
        refine XS.ifYes X0.here hx rfl (pc0 := 25) (pc' := 33) rfl (hb hby at_25) rfl ((if0 _ _).trans (teq hm25).1) (by decide) (by decide) ?_
        show Steps p.tables e below (s₁.setTop (mkF m 33 #[.val (.int y1), .val (.int y2), .val (.int y3), .val (.int y4), .val (.int (2 : Int32)), .val (.int xb0), .unset, .unset, .unset, .unset] [])) _
        refine XS.iloadN X0.here hx rfl (hb hby at_33) rfl ?_
        show Steps p.tables e below (s₁.setTop (mkF m 34 #[.val (.int y1), .val (.int y2), .val (.int y3), .val (.int y4), .val (.int (2 : Int32)), .val (.int xb0), .unset, .unset, .unset, .unset] [(.int y3)])) _
        refine XS.i2b X0.here hx rfl (hb hby at_34) rfl ?_
        exact k
      · have hq := hxb1
        rw [if_neg hm25] at hq
        rw [hq] at k
        show Steps p.tables e below (s₁.setTop (mkF m 25 #[.val (.int y1), .val (.int y2), .val (.int y3), .val (.int y4), .val (.int (2 : Int32)), .val (.int xb0), .unset, .unset, .unset, .unset] [(.int (y1 &&& (2 : Int32)))])) _
        refine XS.ifNo X0.here hx rfl (hb hby at_25) rfl ((if0 _ _).trans (feq hm25).1) ?_
        show Steps p.tables e below (s₁.setTop (mkF m 28 #[.val (.int y1), .val (.int y2), .val (.int y3), .val (.int y4), .val (.int (2 : Int32)), .val (.int xb0), .unset, .unset, .unset, .unset] [])) _
        refine XS.bipush X0.here hx rfl (hb hby at_28) ?_
        show Steps p.tables e below (s₁.setTop (mkF m 30 #[.val (.int y1), .val (.int y2), .val (.int y3), .val (.int y4), .val (.int (2 : Int32)), .val (.int xb0), .unset, .unset, .unset, .unset] [(.int (-117 : Int32))])) _
        refine XS.goto X0.here hx rfl (pc0 := 30) (pc' := 35) rfl (hb hby at_30) (by decide) (by decide) ?_
        exact k
    obtain ⟨v39, hv39⟩ : ∃ w : Int32, w = (y4.toInt8.toInt32) := ⟨_, rfl⟩
    have pre33 : ∀ t, Steps p.tables e below (s₁.setTop (mkF m 41 #[.val (.int y1), .val (.int y2), .val (.int y3), .val (.int y4), .val (.int (2 : Int32)), .val (.int xb0), .val (.int xb1), .val (.int v39), .unset, .unset] [])) t → Steps p.tables e below (s₁.setTop (entryFrame m #[(.int y1), (.int y2), (.int y3), (.int y4)] maxLocals)) t := by
      intro t k
      rw [hv39] at k
      refine pre32 _ ?_
      show Steps p.tables e below (s₁.setTop (mkF m 35 #[.val (.int y1), .val (.int y2), .val (.int y3), .val (.int y4), .val (.int (2 : Int32)), .val (.int xb0), .unset, .unset, .unset, .unset] [(.int xb1)])) _
      refine XS.istore X0.here hx rfl (hb hby at_35) rfl (l' := #[.val (.int y1), .val (.int y2), .val (.int y3), .val (.int y4), .val (.int (2 : Int32)), .val (.int xb0), .val (.int xb1), .unset, .unset, .unset]) rfl ?_
      show Steps p.tables e below (s₁.setTop (mkF m 37 #[.val (.int y1), .val (.int y2), .val (.int y3), .val (.int y4), .val (.int (2 : Int32)), .val (.int xb0), .val (.int xb1), .unset, .unset, .unset] [])) _
      refine XS.iloadN X0.here hx rfl (hb hby at_37) rfl ?_
      show Steps p.tables e below (s₁.setTop (mkF m 38 #[.val (.int y1), .val (.int y2), .val (.int y3), .val (.int y4), .val (.int (2 : Int32)), .val (.int xb0), .val (.int xb1), .unset, .unset, .unset] [(.int y4)])) _
      refine XS.i2b X0.here hx rfl (hb hby at_38) rfl ?_
      show Steps p.tables e below (s₁.setTop (mkF m 39 #[.val (.int y1), .val (.int y2), .val (.int y3), .val (.int y4), .val (.int (2 : Int32)), .val (.int xb0), .val (.int xb1), .unset, .unset, .unset] [(.int (y4.toInt8.toInt32))])) _
      refine XS.istore X0.here hx rfl (hb hby at_39) rfl (l' := #[.val (.int y1), .val (.int y2), .val (.int y3), .val (.int y4), .val (.int (2 : Int32)), .val (.int xb0), .val (.int xb1), .val (.int (y4.toInt8.toInt32)), .unset, .unset]) rfl ?_
      exact k
    obtain ⟨T34, h34, k34, X34, e34, E34, A34, st34⟩ := newP X0 hx hZ (hw _ (List.mem_of_getElem? (i := 0) rfl)) e0 (g := (mkF m 43 #[.val (.int y1), .val (.int y2), .val (.int y3), .val (.int y4), .val (.int (2 : Int32)), .val (.int xb0), .val (.int xb1), .val (.int v39), .unset, .unset] [(.int (2 : Int32))])) rfl (hb hby at_43) rfl (by decide) (cap := 2) (by decide) (by decide) (by decide) (by decide)
    obtain ⟨b34, g34⟩ : ∃ z, z = h0.size := ⟨_, rfl⟩
    rw [← g34] at A34 st34
    have g_b34 : n0 ≤ b34 := Nat.le_trans Z0 (Nat.le_of_eq g34.symm)
    have sz_b34 : h0.size ≤ b34 := Nat.le_trans K0.1 (Nat.le_of_eq g34.symm)
    have K34 : Keep h0 h34 [] := K0.ext E34
    have Z34 : n0 ≤ h34.size := Nat.le_trans Z0 E34.1
    have F35 : Arv Z h34 b34 k34 .byte (2 : Int32) [(.int (0 : Int32)), (.int (0 : Int32))] (.int (0 : Int32)) := (Arv.new A34 (by decide)).pad (pad_rep [] (.int (0 : Int32)) 2)
    have hd36 : (0 : Int32) < (2 : Int32) := (by decide)
    obtain ⟨cl37, Ar37, q37, S37, M37, H37, G37⟩ := id F35
    obtain ⟨T38, h38, X38, e38, W38, st38⟩ := stB X34 hx hZ e34 Ar37 (j := (0 : Int32)) (inb_of S37 ⟨by decide, by decide⟩) (g := (mkF m 57 #[.val (.int y1), .val (.int y2), .val (.int y3), .val (.int y4), .val (.int (2 : Int32)), .val (.int xb0), .val (.int xb1), .val (.int v39), .val (.ref b34), .unset] [(.int xb0), (.int (0 : Int32)), (.ref b34)])) rfl rfl (hb hby at_57)
    have F39 : Arv Z h38 b34 k34 .byte (2 : Int32) [(.int (xb0.toInt8.toInt32)), (.int (0 : Int32))] (.int (0 : Int32)) := Arv.set Ar37 q37 S37 M37 H37 G37 (fits_nar_byte _) W38 0 rfl (Nat.le_of_ble_eq_true rfl)
    have N38 := Fr.snoc X38 N0 g_b34
    have Z38 : n0 ≤ h38.size := Nat.le_trans Z34 (Keep.of_wr W38).1
    have K38 : Keep h0 h38 [] := K34.wr W38 (Or.inr sz_b34)
    have hd40 : (1 : Int32) < (2 : Int32) := (by decide)
    obtain ⟨cl41, Ar41, q41, S41, M41, H41, G41⟩ := id F39
    obtain ⟨T42, h42, X42, e42, W42, st42⟩ := stB X38 hx hZ e38 Ar41 (j := (1 : Int32)) (inb_of S41 ⟨by decide, by decide⟩) (g := (mkF m 69 #[.val (.int y1), .val (.int y2), .val (.int y3), .val (.int y4), .val (.int (2 : Int32)), .val (.int xb0), .val (.int xb1), .val (.int v39), .val (.ref b34), .unset] [(.int xb1), (.int (1 : Int32)), (.ref b34)])) rfl rfl (hb hby at_69)
    have F43 : Arv Z h42 b34 k34 .byte (2 : Int32) [(.int (xb0.toInt8.toInt32)), (.int (xb1.toInt8.toInt32))] (.int (0 : Int32)) := Arv.set Ar41 q41 S41 M41 H41 G41 (fits_nar_byte _) W42 1 rfl (Nat.le_of_ble_eq_true rfl)
    have N42 := Fr.snoc X42 N38 g_b34
    have Z42 : n0 ≤ h42.size := Nat.le_trans Z38 (Keep.of_wr W42).1
    have K42 : Keep h0 h42 [] := K38.wr W42 (Or.inr sz_b34)
    have hd44 : ¬ ((2 : Int32) < (2 : Int32)) := (by decide)
    have hd45 : ¬ ((2 : Int32) < (2 : Int32)) := (by decide)
    have pre46 : ∀ t, Steps p.tables e below (T42.setTop (mkF m 92 #[.val (.int y1), .val (.int y2), .val (.int y3), .val (.int y4), .val (.int (2 : Int32)), .val (.int xb0), .val (.int xb1), .val (.int v39), .val (.ref b34), .unset] [(.int (31 : Int32)), (.int xb0)])) t → Steps p.tables e below (s₁.setTop (entryFrame m #[(.int y1), (.int y2), (.int y3), (.int y4)] maxLocals)) t := by
      intro t k
      refine pre33 _ ?_
      show Steps p.tables e below (s₁.setTop (mkF m 41 #[.val (.int y1), .val (.int y2), .val (.int y3), .val (.int y4), .val (.int (2 : Int32)), .val (.int xb0), .val (.int xb1), .val (.int v39), .unset, .unset] [])) _
      refine XS.iload X0.here hx rfl (hb hby at_41) rfl ?_
      show Steps p.tables e below (s₁.setTop (mkF m 43 #[.val (.int y1), .val (.int y2), .val (.int y3), .val (.int y4), .val (.int (2 : Int32)), .val (.int xb0), .val (.int xb1), .val (.int v39), .unset, .unset] [(.int (2 : Int32))])) _
      refine st34 _ ?_
      show Steps p.tables e below (T34.setTop (mkF m 45 #[.val (.int y1), .val (.int y2), .val (.int y3), .val (.int y4), .val (.int (2 : Int32)), .val (.int xb0), .val (.int xb1), .val (.int v39), .unset, .unset] [(.ref b34)])) _
      refine XS.astore X34.here hx rfl (hb hby at_45) rfl rfl (l' := #[.val (.int y1), .val (.int y2), .val (.int y3), .val (.int y4), .val (.int (2 : Int32)), .val (.int xb0), .val (.int xb1), .val (.int v39), .val (.ref b34), .unset]) rfl ?_
      show Steps p.tables e below (T34.setTop (mkF m 47 #[.val (.int y1), .val (.int y2), .val (.int y3), .val (.int y4), .val (.int (2 : Int32)), .val (.int xb0), .val (.int xb1), .val (.int v39), .val (.ref b34), .unset] [])) _
      refine XS.iload X34.here hx rfl (hb hby at_47) rfl ?_
      show Steps p.tables e below (T34.setTop (mkF m 49 #[.val (.int y1), .val (.int y2), .val (.int y3), .val (.int y4), .val (.int (2 : Int32)), .val (.int xb0), .val (.int xb1), .val (.int v39), .val (.ref b34), .unset] [(.int (2 : Int32))])) _
      refine XS.ifNo X34.here hx rfl (hb hby at_49) rfl ((if0 _ _).trans (tlt hd36).2.2.2) ?_
      show Steps p.tables e below (T34.setTop (mkF m 52 #[.val (.int y1), .val (.int y2), .val (.int y3), .val (.int y4), .val (.int (2 : Int32)), .val (.int xb0), .val (.int xb1), .val (.int v39), .val (.ref b34), .unset] [])) _
      refine XS.aload X34.here hx rfl (hb hby at_52) rfl rfl ?_
      show Steps p.tables e below (T34.setTop (mkF m 54 #[.val (.int y1), .val (.int y2), .val (.int y3), .val (.int y4), .val (.int (2 : Int32)), .val (.int xb0), .val (.int xb1), .val (.int v39), .val (.ref b34), .unset] [(.ref b34)])) _
      refine XS.iconst X34.here hx rfl (hb hby at_54) ?_
      show Steps p.tables e below (T34.setTop (mkF m 55 #[.val (.int y1), .val (.int y2), .val (.int y3), .val (.int y4), .val (.int (2 : Int32)), .val (.int xb0), .val (.int xb1), .val (.int v39), .val (.ref b34), .unset] [(.int (0 : Int32)), (.ref b34)])) _
      refine XS.iload X34.here hx rfl (hb hby at_55) rfl ?_
      show Steps p.tables e below (T34.setTop (mkF m 57 #[.val (.int y1), .val (.int y2), .val (.int y3), .val (.int y4), .val (.int (2 : Int32)), .val (.int xb0), .val (.int xb1), .val (.int v39), .val (.ref b34), .unset] [(.int xb0), (.int (0 : Int32)), (.ref b34)])) _
      refine st38 _ ?_
      show Steps p.tables e below (T38.setTop (mkF m 58 #[.val (.int y1), .val (.int y2), .val (.int y3), .val (.int y4), .val (.int (2 : Int32)), .val (.int xb0), .val (.int xb1), .val (.int v39), .val (.ref b34), .unset] [])) _
      refine XS.iload X38.here hx rfl (hb hby at_58) rfl ?_
      show Steps p.tables e below (T38.setTop (mkF m 60 #[.val (.int y1), .val (.int y2), .val (.int y3), .val (.int y4), .val (.int (2 : Int32)), .val (.int xb0), .val (.int xb1), .val (.int v39), .val (.ref b34), .unset] [(.int (2 : Int32))])) _
      refine XS.iconst X38.here hx rfl (hb hby at_60) ?_
      show Steps p.tables e below (T38.setTop (mkF m 61 #[.val (.int y1), .val (.int y2), .val (.int y3), .val (.int y4), .val (.int (2 : Int32)), .val (.int xb0), .val (.int xb1), .val (.int v39), .val (.ref b34), .unset] [(.int (1 : Int32)), (.int (2 : Int32))])) _
      refine XS.icmpNo X38.here hx rfl (hb hby at_61) rfl (tlt hd40).2.2.2 ?_
      show Steps p.tables e below (T38.setTop (mkF m 64 #[.val (.int y1), .val (.int y2), .val (.int y3), .val (.int y4), .val (.int (2 : Int32)), .val (.int xb0), .val (.int xb1), .val (.int v39), .val (.ref b34), .unset] [])) _
      refine XS.aload X38.here hx rfl (hb hby at_64) rfl rfl ?_
      show Steps p.tables e below (T38.setTop (mkF m 66 #[.val (.int y1), .val (.int y2), .val (.int y3), .val (.int y4), .val (.int (2 : Int32)), .val (.int xb0), .val (.int xb1), .val (.int v39), .val (.ref b34), .unset] [(.ref b34)])) _
      refine XS.iconst X38.here hx rfl (hb hby at_66) ?_
      show Steps p.tables e below (T38.setTop (mkF m 67 #[.val (.int y1), .val (.int y2), .val (.int y3), .val (.int y4), .val (.int (2 : Int32)), .val (.int xb0), .val (.int xb1), .val (.int v39), .val (.ref b34), .unset] [(.int (1 : Int32)), (.ref b34)])) _
      refine XS.iload X38.here hx rfl (hb hby at_67) rfl ?_
      show Steps p.tables e below (T38.setTop (mkF m 69 #[.val (.int y1), .val (.int y2), .val (.int y3), .val (.int y4), .val (.int (2 : Int32)), .val (.int xb0), .val (.int xb1), .val (.int v39), .val (.ref b34), .unset] [(.int xb1), (.int (1 : Int32)), (.ref b34)])) _
      refine st42 _ ?_
      show Steps p.tables e below (T42.setTop (mkF m 70 #[.val (.int y1), .val (.int y2), .val (.int y3), .val (.int y4), .val (.int (2 : Int32)), .val (.int xb0), .val (.int xb1), .val (.int v39), .val (.ref b34), .unset] [])) _
      refine XS.iload X42.here hx rfl (hb hby at_70) rfl ?_
      show Steps p.tables e below (T42.setTop (mkF m 72 #[.val (.int y1), .val (.int y2), .val (.int y3), .val (.int y4), .val (.int (2 : Int32)), .val (.int xb0), .val (.int xb1), .val (.int v39), .val (.ref b34), .unset] [(.int (2 : Int32))])) _
      refine XS.iconst X42.here hx rfl (hb hby at_72) ?_
      show Steps p.tables e below (T42.setTop (mkF m 73 #[.val (.int y1), .val (.int y2), .val (.int y3), .val (.int y4), .val (.int (2 : Int32)), .val (.int xb0), .val (.int xb1), .val (.int v39), .val (.ref b34), .unset] [(.int (2 : Int32)), (.int (2 : Int32))])) _
      refine XS.icmpYes X42.here hx rfl (pc0 := 73) (pc' := 82) rfl (hb hby at_73) rfl (flt hd44).2.2.2 (by decide) (by decide) ?_
      show Steps p.tables e below (T42.setTop (mkF m 82 #[.val (.int y1), .val (.int y2), .val (.int y3), .val (.int y4), .val (.int (2 : Int32)), .val (.int xb0), .val (.int xb1), .val (.int v39), .val (.ref b34), .unset] [])) _
      refine XS.iload X42.here hx rfl (hb hby at_82) rfl ?_
      show Steps p.tables e below (T42.setTop (mkF m 84 #[.val (.int y1), .val (.int y2), .val (.int y3), .val (.int y4), .val (.int (2 : Int32)), .val (.int xb0), .val (.int xb1), .val (.int v39), .val (.ref b34), .unset] [(.int (2 : Int32))])) _
      refine XS.iconst X42.here hx rfl (hb hby at_84) ?_
      show Steps p.tables e below (T42.setTop (mkF m 85 #[.val (.int y1), .val (.int y2), .val (.int y3), .val (.int y4), .val (.int (2 : Int32)), .val (.int xb0), .val (.int xb1), .val (.int v39), .val (.ref b34), .unset] [(.int (2 : Int32)), (.int (2 : Int32))])) _
      refine XS.icmpNo X42.here hx rfl (hb hby at_85) rfl (flt hd45).1 ?_
      show Steps p.tables e below (T42.setTop (mkF m 88 #[.val (.int y1), .val (.int y2), .val (.int y3), .val (.int y4), .val (.int (2 : Int32)), .val (.int xb0), .val (.int xb1), .val (.int v39), .val (.ref b34), .unset] [])) _
      refine XS.iload X42.here hx rfl (hb hby at_88) rfl ?_
      show Steps p.tables e below (T42.setTop (mkF m 90 #[.val (.int y1), .val (.int y2), .val (.int y3), .val (.int y4), .val (.int (2 : Int32)), .val (.int xb0), .val (.int xb1), .val (.int v39), .val (.ref b34), .unset] [(.int xb0)])) _
      refine XS.bipush X42.here hx rfl (hb hby at_90) ?_
      exact k
    obtain ⟨xe, hxe⟩ : ∃ w : Int32, w = (if xb0 = (31 : Int32) then (if xb1 = (-117 : Int32) then (1 : Int32) else (0 : Int32)) else (0 : Int32)) := ⟨_, rfl⟩
    have pre47 : ∀ t, Steps p.tables e below (T42.setTop (mkF m 107 #[.val (.int y1), .val (.int y2), .val (.int y3), .val (.int y4), .val (.int (2 : Int32)), .val (.int xb0), .val (.int xb1), .val (.int v39), .val (.ref b34), .unset] [(.int xe)])) t → Steps p.tables e below (s₁.setTop (entryFrame m #[(.int y1), (.int y2), (.int y3), (.int y4)] maxLocals)) t := by
      intro t k
      refine pre46 _ ?_
      by_cases hm92 : xb0 = (31 : Int32)
      · by_cases hm99 : xb1 = (-117 : Int32)
        · have hq := hxe
          rw [if_pos hm92, if_pos hm99] at hq
          rw [hq] at k
          show Steps p.tables e below (T42.setTop (mkF m 92 #[.val (.int y1), .val (.int y2), .val (.int y3), .val (.int y4), .val (.int (2 : Int32)), .val (.int xb0), .val (.int xb1), .val (.int v39), .val (.ref b34), .unset] [(.int (31 : Int32)), (.int xb0)])) _
          refine XS.icmpNo X42.here hx rfl (hb hby at_92) rfl (teq hm92).2 ?_
          show Steps p.tables e below (T42.setTop (mkF m 95 #[.val (.int y1), .val (.int y2), .val (.int y3), .val (.int y4), .val (.int (2 : Int32)), .val (.int xb0), .val (.int xb1), .val (.int v39), .val (.ref b34), .unset] [])) _
          refine XS.iload X42.here hx rfl (hb hby at_95) rfl ?_
          show Steps p.tables e below (T42.setTop (mkF m 97 #[.val (.int y1), .val (.int y2), .val (.int y3), .val (.int y4), .val (.int (2 : Int32)), .val (.int xb0), .val (.int xb1), .val (.int v39), .val (.ref b34), .unset] [(.int xb1)])) _
          refine XS.bipush X42.here hx rfl (hb hby at_97) ?_
          show Steps p.tables e below (T42.setTop (mkF m 99 #[.val (.int y1), .val (.int y2), .val (.int y3), .val (.int y4), .val (.int (2 : Int32)), .val (.int xb0), .val (.int xb1), .val (.int v39), .val (.ref b34), .unset] [(.int (-117 : Int32)), (.int xb1)])) _
          refine XS.icmpNo X42.here hx rfl (hb hby at_99) rfl (teq hm99).2 ?_
          show Steps p.tables e below (T42.setTop (mkF m 102 #[.val (.int y1), .val (.int y2), .val (.int y3), .val (.int y4), .val (.int (2 : Int32)), .val (.int xb0), .val (.int xb1), .val (.int v39), .val (.ref b34), .unset] [])) _
          refine XS.iconst X42.here hx rfl (hb hby at_102) ?_
          show Steps p.tables e below (T42.setTop (mkF m 103 #[.val (.int y1), .val (.int y2), .val (.int y3), .val (.int y4), .val (.int (2 : Int32)), .val (.int xb0), .val (.int xb1), .val (.int v39), .val (.ref b34), .unset] [(.int (1 : Int32))])) _
          refine XS.goto X42.here hx rfl (pc0 := 103) (pc' := 107) rfl (hb hby at_103) (by decide) (by decide) ?_
          exact k
        · have hq := hxe
          rw [if_pos hm92, if_neg hm99] at hq
          rw [hq] at k
          show Steps p.tables e below (T42.setTop (mkF m 92 #[.val (.int y1), .val (.int y2), .val (.int y3), .val (.int y4), .val (.int (2 : Int32)), .val (.int xb0), .val (.int xb1), .val (.int v39), .val (.ref b34), .unset] [(.int (31 : Int32)), (.int xb0)])) _
          refine XS.icmpNo X42.here hx rfl (hb hby at_92) rfl (teq hm92).2 ?_
          show Steps p.tables e below (T42.setTop (mkF m 95 #[.val (.int y1), .val (.int y2), .val (.int y3), .val (.int y4), .val (.int (2 : Int32)), .val (.int xb0), .val (.int xb1), .val (.int v39), .val (.ref b34), .unset] [])) _
          refine XS.iload X42.here hx rfl (hb hby at_95) rfl ?_
          show Steps p.tables e below (T42.setTop (mkF m 97 #[.val (.int y1), .val (.int y2), .val (.int y3), .val (.int y4), .val (.int (2 : Int32)), .val (.int xb0), .val (.int xb1), .val (.int v39), .val (.ref b34), .unset] [(.int xb1)])) _
          refine XS.bipush X42.here hx rfl (hb hby at_97) ?_
          show Steps p.tables e below (T42.setTop (mkF m 99 #[.val (.int y1), .val (.int y2), .val (.int y3), .val (.int y4), .val (.int (2 : Int32)), .val (.int xb0), .val (.int xb1), .val (.int v39), .val (.ref b34), .unset] [(.int (-117 : Int32)), (.int xb1)])) _
          refine XS.icmpYes X42.here hx rfl (pc0 := 99) (pc' := 106) rfl (hb hby at_99) rfl (feq hm99).2 (by decide) (by decide) ?_
          show Steps p.tables e below (T42.setTop (mkF m 106 #[.val (.int y1), .val (.int y2), .val (.int y3), .val (.int y4), .val (.int (2 : Int32)), .val (.int xb0), .val (.int xb1), .val (.int v39), .val (.ref b34), .unset] [])) _
          refine XS.iconst X42.here hx rfl (hb hby at_106) ?_
          exact k
      · have hq := hxe
        rw [if_neg hm92] at hq
        rw [hq] at k
        show Steps p.tables e below (T42.setTop (mkF m 92 #[.val (.int y1), .val (.int y2), .val (.int y3), .val (.int y4), .val (.int (2 : Int32)), .val (.int xb0), .val (.int xb1), .val (.int v39), .val (.ref b34), .unset] [(.int (31 : Int32)), (.int xb0)])) _
        refine XS.icmpYes X42.here hx rfl (pc0 := 92) (pc' := 106) rfl (hb hby at_92) rfl (feq hm92).2 (by decide) (by decide) ?_
        show Steps p.tables e below (T42.setTop (mkF m 106 #[.val (.int y1), .val (.int y2), .val (.int y3), .val (.int y4), .val (.int (2 : Int32)), .val (.int xb0), .val (.int xb1), .val (.int v39), .val (.ref b34), .unset] [])) _
        refine XS.iconst X42.here hx rfl (hb hby at_106) ?_
        exact k
    obtain ⟨_, _, ⟨T48, L48, k48, n48⟩, -, X48, ⟨Lc48, hQ48, l48, y48, z48⟩, st48⟩ := Jvm.LawKit.callS X42 hx (y := (⟨"com/example/stratafile/stratafile/codec/GzipInputStream", "startsWithMagic", "([B)Z"⟩ : MethodName)) hown (mvT hZ (hw _ (List.mem_of_getElem? (i := 1) rfl))) (mvT hZ (hw _ (List.mem_of_getElem? (i := 2) rfl))) (mvT hZ (hw _ (List.mem_of_getElem? (i := 3) rfl))) (mvT hZ (hw _ (List.mem_of_getElem? (i := 4) rfl))) (by decide) (backOf (W := 0) (own_rm1_2 l Z a0 hw [] b34 k34 (xb0.toInt8.toInt32) (xb1.toInt8.toInt32) h42 n0 Z42 F43) hZ (hw _ (List.mem_of_getElem? (i := 4) rfl)) (hw _ (List.mem_of_getElem? (i := 3) rfl)) (by decide) (by decide)) (g := (mkF m 111 #[.val (.int y1), .val (.int y2), .val (.int y3), .val (.int y4), .val (.int (2 : Int32)), .val (.int xb0), .val (.int xb1), .val (.int v39), .val (.ref b34), .val (.int xe)] [(.ref b34)])) rfl (by rw [hml]; rfl) (argsL := [(.ref b34)]) (rest := []) (lenOf own_pd0 rfl) rfl (by show 2 * 0 + _ ≤ _; exact Nat.le_of_eq rfl) (hb hby at_111) (fun _ _ => ⟨rfl, e42, (by decide : 1 + 0 ≤ _), (by decide : 2 + 0 ≤ _)⟩)
    dsimp only [Pt.U, Pt.locs, Pt.cells, Pt.slots] at X48 l48 y48 z48 st48 hQ48
    subst l48 y48 z48
    obtain ⟨rfl, N48q, eh48⟩ := hQ48
    have N48 := Fr.app N42 N48q
    have hd49 : (own_sw (xb0.toInt8.toInt32) (xb1.toInt8.toInt32)) = xe := (by rw [hxe]; unfold own_sw; simp only [own_e31 (own_byte hxb0 (by decide)), own_e139 (own_byte hxb1 (by decide))])
    obtain ⟨fs, hr, hrun, hended, hW, hsame⟩ := X48.leave (v := some (.int (1 : Int32))) (fun h => by rw [Bd.returns] at h; cases h)
    refine ⟨_, _, pre47 _ ?_, hrun, hended, _, _, rfl, ?_, ⟨_, rfl⟩, hW, hsame.mono (by decide) (by decide)⟩
    · show Steps p.tables e below (T42.setTop (mkF m 107 #[.val (.int y1), .val (.int y2), .val (.int y3), .val (.int y4), .val (.int (2 : Int32)), .val (.int xb0), .val (.int xb1), .val (.int v39), .val (.ref b34), .unset] [(.int xe)])) _
      refine XS.istore X42.here hx rfl (hb hby at_107) rfl (l' := #[.val (.int y1), .val (.int y2), .val (.int y3), .val (.int y4), .val (.int (2 : Int32)), .val (.int xb0), .val (.int xb1), .val (.int v39), .val (.ref b34), .val (.int xe)]) rfl ?_
      show Steps p.tables e below (T42.setTop (mkF m 109 #[.val (.int y1), .val (.int y2), .val (.int y3), .val (.int y4), .val (.int (2 : Int32)), .val (.int xb0), .val (.int xb1), .val (.int v39), .val (.ref b34), .val (.int xe)] [])) _
      refine XS.aload X42.here hx rfl (hb hby at_109) rfl rfl ?_
      show Steps p.tables e below (T42.setTop (mkF m 111 #[.val (.int y1), .val (.int y2), .val (.int y3), .val (.int y4), .val (.int (2 : Int32)), .val (.int xb0), .val (.int xb1), .val (.int v39), .val (.ref b34), .val (.int xe)] [(.ref b34)])) _
      refine st48 _ ?_
      show Steps p.tables e below (T48.setTop (mkF m 114 #[.val (.int y1), .val (.int y2), .val (.int y3), .val (.int y4), .val (.int (2 : Int32)), .val (.int xb0), .val (.int xb1), .val (.int v39), .val (.ref b34), .val (.int xe)] [(.int (own_sw (xb0.toInt8.toInt32) (xb1.toInt8.toInt32)))])) _
      refine XS.iload X48.here hx rfl (hb hby at_114) rfl ?_
      show Steps p.tables e below (T48.setTop (mkF m 116 #[.val (.int y1), .val (.int y2), .val (.int y3), .val (.int y4), .val (.int (2 : Int32)), .val (.int xb0), .val (.int xb1), .val (.int v39), .val (.ref b34), .val (.int xe)] [(.int xe), (.int (own_sw (xb0.toInt8.toInt32) (xb1.toInt8.toInt32)))])) _
      refine XS.icmpNo X48.here hx rfl (hb hby at_116) rfl (teq hd49).2 ?_
      show Steps p.tables e below (T48.setTop (mkF m 119 #[.val (.int y1), .val (.int y2), .val (.int y3), .val (.int y4), .val (.int (2 : Int32)), .val (.int xb0), .val (.int xb1), .val (.int v39), .val (.ref b34), .val (.int xe)] [])) _
      refine XS.iconst X48.here hx rfl (hb hby at_119) ?_
      show Steps p.tables e below (T48.setTop (mkF m 120 #[.val (.int y1), .val (.int y2), .val (.int y3), .val (.int y4), .val (.int (2 : Int32)), .val (.int xb0), .val (.int xb1), .val (.int v39), .val (.ref b34), .val (.int xe)] [(.int (1 : Int32))])) _
      refine XS.goto X48.here hx rfl (pc0 := 120) (pc' := 124) rfl (hb hby at_120) (by decide) (by decide) ?_
      show Steps p.tables e below (T48.setTop (mkF m 124 #[.val (.int y1), .val (.int y2), .val (.int y3), .val (.int y4), .val (.int (2 : Int32)), .val (.int xb0), .val (.int xb1), .val (.int v39), .val (.ref b34), .val (.int xe)] [(.int (1 : Int32))])) _
      exact retN X48 hx (t := .boolean) Bd.returns (by simp) (hb hby at_124) hr
    · show own_Q0 Z y1 y2 y3 y4 h0 n0 _ T48.heap _
      rw [eh48]
      exact ⟨rfl, N48⟩
  · subst hs_v5
    have pre50 : ∀ t, Steps p.tables e below (s₁.setTop (mkF m 10 #[.val (.int y1), .val (.int y2), .val (.int y3), .val (.int y4), .val (.int (3 : Int32)), .unset, .unset, .unset, .unset, .unset] [(.int (y1 &&& (1 : Int32)))])) t → Steps p.tables e below (s₁.setTop (entryFrame m #[(.int y1), (.int y2), (.int y3), (.int y4)] maxLocals)) t := by
      intro t k
      refine pre1 _ ?_
      show Steps p.tables e below (s₁.setTop (mkF m 7 #[.val (.int y1), .val (.int y2), .val (.int y3), .val (.int y4), .val (.int (3 : Int32)), .unset, .unset, .unset, .unset, .unset] [])) _
      refine XS.iloadN X0.here hx rfl (hb hby at_7) rfl ?_
      show Steps p.tables e below (s₁.setTop (mkF m 8 #[.val (.int y1), .val (.int y2), .val (.int y3), .val (.int y4), .val (.int (3 : Int32)), .unset, .unset, .unset, .unset, .unset] [(.int y1)])) _
      refine XS.iconst X0.here hx rfl (hb hby at_8) ?_
      show Steps p.tables e below (s₁.setTop (mkF m 9 #[.val (.int y1), .val (.int y2), .val (.int y3), .val (.int y4), .val (.int (3 : Int32)), .unset, .unset, .unset, .unset, .unset] [(.int (1 : Int32)), (.int y1)])) _
      refine XS.iand X0.here hx rfl (hb hby at_9) rfl ?_
      exact k
    obtain ⟨xb0, hxb0⟩ : ∃ w : Int32, w = (if (y1 &&& (1 : Int32)) = (0 : Int32) then (y2.toInt8.toInt32) else (31 : Int32)) := ⟨_, rfl⟩
    have pre51 : ∀ t, Steps p.tables e below (s₁.setTop (mkF m 20 #[.val (.int y1), .val (.int y2), .val (.int y3), .val (.int y4), .val (.int (3 : Int32)), .unset, .unset, .unset, .unset, .unset] [(.int xb0)])) t → Steps p.tables e below (s₁.setTop (entryFrame m #[(.int y1), (.int y2), (.int y3), (.int y4)] maxLocals)) t := by
      intro t k
      refine pre50 _ ?_
      by_cases hm10 : (y1 &&& (1 : Int32)) = (0 : Int32)
      · have hq := hxb0
        rw [if_pos hm10] at hq
        rw [hq] at k
        show Steps p.tables e below (s₁.setTop (mkF m 10 #[.val (.int y1), .val (.int y2), .val (.int y3), .val (.int y4), .val (.int (3 : Int32)), .unset, .unset, .unset, .unset, .unset] [(.int (y1 &&& (1 : Int32)))])) _
        refine XS.ifYes X0.here hx rfl (pc0 := 10) (pc' := 18) rfl (hb hby at_10) rfl ((if0 _ _).trans (teq hm10).1) (by decide) (by decide) ?_
        show Steps p.tables e below (s₁.setTop (mkF m 18 #[.val (.int y1), .val (.int y2), .val (.int y3), .val (.int y4), .val (.int (3 : Int32)), .unset, .unset, .unset, .unset, .unset] [])) _
        refine XS.iloadN X0.here hx rfl (hb hby at_18) rfl ?_
        show Steps p.tables e below (s₁.setTop (mkF m 19 #[.val (.int y1), .val (.int y2), .val (.int y3), .val (.int y4), .val (.int (3 : Int32)), .unset, .unset, .unset, .unset, .unset] [(.int y2)])) _
        refine XS.i2b X0.here hx rfl (hb hby at_19) rfl ?_
        exact k
      · have hq := hxb0
        rw [if_neg hm10] at hq
        rw [hq] at k
        show Steps p.tables e below (s₁.setTop (mkF m 10 #[.val (.int y1), .val (.int y2), .val (.int y3), .val (.int y4), .val (.int (3 : Int32)), .unset, .unset, .unset, .unset, .unset] [(.int (y1 &&& (1 : Int32)))])) _
        refine XS.ifNo X0.here hx rfl (hb hby at_10) rfl ((if0 _ _).trans (feq hm10).1) ?_
        show Steps p.tables e below (s₁.setTop (mkF m 13 #[.val (.int y1), .val (.int y2), .val (.int y3), .val (.int y4), .val (.int (3 : Int32)), .unset, .unset, .unset, .unset, .unset] [])) _
        refine XS.bipush X0.here hx rfl (hb hby at_13) ?_
        show Steps p.tables e below (s₁.setTop (mkF m 15 #[.val (.int y1), .val (.int y2), .val (.int y3), .val (.int y4), .val (.int (3 : Int32)), .unset, .unset, .unset, .unset, .unset] [(.int (31 : Int32))])) _
        refine XS.goto X0.here hx rfl (pc0 := 15) (pc' := 20) rfl (hb hby at_15) (by decide) (by decide) ?_
        exact k
    have pre52 : ∀ t, Steps p.tables e below (s₁.setTop (mkF m 25 #[.val (.int y1), .val (.int y2), .val (.int y3), .val (.int y4), .val (.int (3 : Int32)), .val (.int xb0), .unset, .unset, .unset, .unset] [(.int (y1 &&& (2 : Int32)))])) t → Steps p.tables e below (s₁.setTop (entryFrame m #[(.int y1), (.int y2), (.int y3), (.int y4)] maxLocals)) t := by
      intro t k
      refine pre51 _ ?_
      show Steps p.tables e below (s₁.setTop (mkF m 20 #[.val (.int y1), .val (.int y2), .val (.int y3), .val (.int y4), .val (.int (3 : Int32)), .unset, .unset, .unset, .unset, .unset] [(.int xb0)])) _
      refine XS.istore X0.here hx rfl (hb hby at_20) rfl (l' := #[.val (.int y1), .val (.int y2), .val (.int y3), .val (.int y4), .val (.int (3 : Int32)), .val (.int xb0), .unset, .unset, .unset, .unset]) rfl ?_
      show Steps p.tables e below (s₁.setTop (mkF m 22 #[.val (.int y1), .val (.int y2), .val (.int y3), .val (.int y4), .val (.int (3 : Int32)), .val (.int xb0), .unset, .unset, .unset, .unset] [])) _
      refine XS.iloadN X0.here hx rfl (hb hby at_22) rfl ?_
      show Steps p.tables e below (s₁.setTop (mkF m 23 #[.val (.int y1), .val (.int y2), .val (.int y3), .val (.int y4), .val (.int (3 : Int32)), .val (.int xb0), .unset, .unset, .unset, .unset] [(.int y1)])) _
      refine XS.iconst X0.here hx rfl (hb hby at_23) ?_
      show Steps p.tables e below (s₁.setTop (mkF m 24 #[.val (.int y1), .val (.int y2), .val (.int y3), .val (.int y4), .val (.int (3 : Int32)), .val (.int xb0), .unset, .unset, .unset, .unset] [(.int (2 : Int32)), (.int y1)])) _
      refine XS.iand X0.here hx rfl (hb hby at_24) rfl ?_
      exact k
    obtain ⟨xb1, hxb1⟩ : ∃ w : Int32, w = (if (y1 &&& (2 : Int32)) = (0 : Int32) then (y3.toInt8.toInt32) else (-117 : Int32)) := ⟨_, rfl⟩
    have pre53 : ∀ t, Steps p.tables e below (s₁.setTop (mkF m 35 #[.val (.int y1), .val (.int y2), .val (.int y3), .val (.int y4), .val (.int (3 : Int32)), .val (.int xb0), .unset, .unset, .unset, .unset] [(.int xb1)])) t → Steps p.tables e below (s₁.setTop (entryFrame m #[(.int y1), (.int y2), (.int y3), (.int y4)] maxLocals)) t := by
      intro t k
      refine pre52 _ ?_
      by_cases hm25 : (y1 &&& (2 : Int32)) = (0 : Int32)
      · have hq := hxb1
        rw [if_pos hm25] at hq
        rw [hq] at k
        show Steps p.tables e below (s₁.setTop (mkF m 25 #[.val (.int y1), .val (.int y2), .val (.int y3), .val (.int y4), .val (.int (3 : Int32)), .val (.int xb0), .unset, .unset, .unset, .unset] [(.int (y1 &&& (2 : Int32)))])) _
        refine XS.ifYes X0.here hx rfl (pc0 := 25) (pc' := 33) rfl (hb hby at_25) rfl ((if0 _ _).trans (teq hm25).1) (by decide) (by decide) ?_
        show Steps p.tables e below (s₁.setTop (mkF m 33 #[.val (.int y1), .val (.int y2), .val (.int y3), .val (.int y4), .val (.int (3 : Int32)), .val (.int xb0), .unset, .unset, .unset, .unset] [])) _
        refine XS.iloadN X0.here hx rfl (hb hby at_33) rfl ?_
        show Steps p.tables e below (s₁.setTop (mkF m 34 #[.val (.int y1), .val (.int y2), .val (.int y3), .val (.int y4), .val (.int (3 : Int32)), .val (.int xb0), .unset, .unset, .unset, .unset] [(.int y3)])) _
        refine XS.i2b X0.here hx rfl (hb hby at_34) rfl ?_
        exact k
      · have hq := hxb1
        rw [if_neg hm25] at hq
        rw [hq] at k
        show Steps p.tables e below (s₁.setTop (mkF m 25 #[.val (.int y1), .val (.int y2), .val (.int y3), .val (.int y4), .val (.int (3 : Int32)), .val (.int xb0), .unset, .unset, .unset, .unset] [(.int (y1 &&& (2 : Int32)))])) _
        refine XS.ifNo X0.here hx rfl (hb hby at_25) rfl ((if0 _ _).trans (feq hm25).1) ?_
        show Steps p.tables e below (s₁.setTop (mkF m 28 #[.val (.int y1), .val (.int y2), .val (.int y3), .val (.int y4), .val (.int (3 : Int32)), .val (.int xb0), .unset, .unset, .unset, .unset] [])) _
        refine XS.bipush X0.here hx rfl (hb hby at_28) ?_
        show Steps p.tables e below (s₁.setTop (mkF m 30 #[.val (.int y1), .val (.int y2), .val (.int y3), .val (.int y4), .val (.int (3 : Int32)), .val (.int xb0), .unset, .unset, .unset, .unset] [(.int (-117 : Int32))])) _
        refine XS.goto X0.here hx rfl (pc0 := 30) (pc' := 35) rfl (hb hby at_30) (by decide) (by decide) ?_
        exact k
    obtain ⟨v39, hv39⟩ : ∃ w : Int32, w = (y4.toInt8.toInt32) := ⟨_, rfl⟩
    have pre54 : ∀ t, Steps p.tables e below (s₁.setTop (mkF m 41 #[.val (.int y1), .val (.int y2), .val (.int y3), .val (.int y4), .val (.int (3 : Int32)), .val (.int xb0), .val (.int xb1), .val (.int v39), .unset, .unset] [])) t → Steps p.tables e below (s₁.setTop (entryFrame m #[(.int y1), (.int y2), (.int y3), (.int y4)] maxLocals)) t := by
      intro t k
      rw [hv39] at k
      refine pre53 _ ?_
      show Steps p.tables e below (s₁.setTop (mkF m 35 #[.val (.int y1), .val (.int y2), .val (.int y3), .val (.int y4), .val (.int (3 : Int32)), .val (.int xb0), .unset, .unset, .unset, .unset] [(.int xb1)])) _
      refine XS.istore X0.here hx rfl (hb hby at_35) rfl (l' := #[.val (.int y1), .val (.int y2), .val (.int y3), .val (.int y4), .val (.int (3 : Int32)), .val (.int xb0), .val (.int xb1), .unset, .unset, .unset]) rfl ?_
      show Steps p.tables e below (s₁.setTop (mkF m 37 #[.val (.int y1), .val (.int y2), .val (.int y3), .val (.int y4), .val (.int (3 : Int32)), .val (.int xb0), .val (.int xb1), .unset, .unset, .unset] [])) _
      refine XS.iloadN X0.here hx rfl (hb hby at_37) rfl ?_
      show Steps p.tables e below (s₁.setTop (mkF m 38 #[.val (.int y1), .val (.int y2), .val (.int y3), .val (.int y4), .val (.int (3 : Int32)), .val (.int xb0), .val (.int xb1), .unset, .unset, .unset] [(.int y4)])) _
      refine XS.i2b X0.here hx rfl (hb hby at_38) rfl ?_
      show Steps p.tables e below (s₁.setTop (mkF m 39 #[.val (.int y1), .val (.int y2), .val (.int y3), .val (.int y4), .val (.int (3 : Int32)), .val (.int xb0), .val (.int xb1), .unset, .unset, .unset] [(.int (y4.toInt8.toInt32))])) _
      refine XS.istore X0.here hx rfl (hb hby at_39) rfl (l' := #[.val (.int y1), .val (.int y2), .val (.int y3), .val (.int y4), .val (.int (3 : Int32)), .val (.int xb0), .val (.int xb1), .val (.int (y4.toInt8.toInt32)), .unset, .unset]) rfl ?_
      exact k
    obtain ⟨T55, h55, k55, X55, e55, E55, A55, st55⟩ := newP X0 hx hZ (hw _ (List.mem_of_getElem? (i := 0) rfl)) e0 (g := (mkF m 43 #[.val (.int y1), .val (.int y2), .val (.int y3), .val (.int y4), .val (.int (3 : Int32)), .val (.int xb0), .val (.int xb1), .val (.int v39), .unset, .unset] [(.int (3 : Int32))])) rfl (hb hby at_43) rfl (by decide) (cap := 3) (by decide) (by decide) (by decide) (by decide)
    obtain ⟨b55, g55⟩ : ∃ z, z = h0.size := ⟨_, rfl⟩
    rw [← g55] at A55 st55
    have g_b55 : n0 ≤ b55 := Nat.le_trans Z0 (Nat.le_of_eq g55.symm)
    have sz_b55 : h0.size ≤ b55 := Nat.le_trans K0.1 (Nat.le_of_eq g55.symm)
    have K55 : Keep h0 h55 [] := K0.ext E55
    have Z55 : n0 ≤ h55.size := Nat.le_trans Z0 E55.1
    have F56 : Arv Z h55 b55 k55 .byte (3 : Int32) [(.int (0 : Int32)), (.int (0 : Int32)), (.int (0 : Int32))] (.int (0 : Int32)) := (Arv.new A55 (by decide)).pad (pad_rep [] (.int (0 : Int32)) 3)
    have hd57 : (0 : Int32) < (3 : Int32) := (by decide)
    obtain ⟨cl58, Ar58, q58, S58, M58, H58, G58⟩ := id F56
    obtain ⟨T59, h59, X59, e59, W59, st59⟩ := stB X55 hx hZ e55 Ar58 (j := (0 : Int32)) (inb_of S58 ⟨by decide, by decide⟩) (g := (mkF m 57 #[.val (.int y1), .val (.int y2), .val (.int y3), .val (.int y4), .val (.int (3 : Int32)), .val (.int xb0), .val (.int xb1), .val (.int v39), .val (.ref b55), .unset] [(.int xb0), (.int (0 : Int32)), (.ref b55)])) rfl rfl (hb hby at_57)
    have F60 : Arv Z h59 b55 k55 .byte (3 : Int32) [(.int (xb0.toInt8.toInt32)), (.int (0 : Int32)), (.int (0 : Int32))] (.int (0 : Int32)) := Arv.set Ar58 q58 S58 M58 H58 G58 (fits_nar_byte _) W59 0 rfl (Nat.le_of_ble_eq_true rfl)
    have N59 := Fr.snoc X59 N0 g_b55
    have Z59 : n0 ≤ h59.size := Nat.le_trans Z55 (Keep.of_wr W59).1
    have K59 : Keep h0 h59 [] := K55.wr W59 (Or.inr sz_b55)
    have hd61 : (1 : Int32) < (3 : Int32) := (by decide)
    obtain ⟨cl62, Ar62, q62, S62, M62, H62, G62⟩ := id F60
    obtain ⟨T63, h63, X63, e63, W63, st63⟩ := stB X59 hx hZ e59 Ar62 (j := (1 : Int32)) (inb_of S62 ⟨by decide, by decide⟩) (g := (mkF m 69 #[.val (.int y1), .val (.int y2), .val (.int y3), .val (.int y4), .val (.int (3 : Int32)), .val (.int xb0), .val (.int xb1), .val (.int v39), .val (.ref b55), .unset] [(.int xb1), (.int (1 : Int32)), (.ref b55)])) rfl rfl (hb hby at_69)
    have F64 : Arv Z h63 b55 k55 .byte (3 : Int32) [(.int (xb0.toInt8.toInt32)), (.int (xb1.toInt8.toInt32)), (.int (0 : Int32))] (.int (0 : Int32)) := Arv.set Ar62 q62 S62 M62 H62 G62 (fits_nar_byte _) W63 1 rfl (Nat.le_of_ble_eq_true rfl)
    have N63 := Fr.snoc X63 N59 g_b55
    have Z63 : n0 ≤ h63.size := Nat.le_trans Z59 (Keep.of_wr W63).1
    have K63 : Keep h0 h63 [] := K59.wr W63 (Or.inr sz_b55)
    have hd65 : (2 : Int32) < (3 : Int32) := (by decide)
    obtain ⟨cl66, Ar66, q66, S66, M66, H66, G66⟩ := id F64
    obtain ⟨T67, h67, X67, e67, W67, st67⟩ := stB X63 hx hZ e63 Ar66 (j := (2 : Int32)) (inb_of S66 ⟨by decide, by decide⟩) (g := (mkF m 81 #[.val (.int y1), .val (.int y2), .val (.int y3), .val (.int y4), .val (.int (3 : Int32)), .val (.int xb0), .val (.int xb1), .val (.int v39), .val (.ref b55), .unset] [(.int v39), (.int (2 : Int32)), (.ref b55)])) rfl rfl (hb hby at_81)
    have F68 : Arv Z h67 b55 k55 .byte (3 : Int32) [(.int (xb0.toInt8.toInt32)), (.int (xb1.toInt8.toInt32)), (.int (v39.toInt8.toInt32))] (.int (0 : Int32)) := Arv.set Ar66 q66 S66 M66 H66 G66 (fits_nar_byte _) W67 2 rfl (Nat.le_of_ble_eq_true rfl)
    have N67 := Fr.snoc X67 N63 g_b55
    have Z67 : n0 ≤ h67.size := Nat.le_trans Z63 (Keep.of_wr W67).1
    have K67 : Keep h0 h67 [] := K63.wr W67 (Or.inr sz_b55)
    have hd69 : ¬ ((3 : Int32) < (2 : Int32)) := (by decide)
    have pre70 : ∀ t, Steps p.tables e below (T67.setTop (mkF m 92 #[.val (.int y1), .val (.int y2), .val (.int y3), .val (.int y4), .val (.int (3 : Int32)), .val (.int xb0), .val (.int xb1), .val (.int v39), .val (.ref b55), .unset] [(.int (31 : Int32)), (.int xb0)])) t → Steps p.tables e below (s₁.setTop (entryFrame m #[(.int y1), (.int y2), (.int y3), (.int y4)] maxLocals)) t := by
      intro t k
      refine pre54 _ ?_
      show Steps p.tables e below (s₁.setTop (mkF m 41 #[.val (.int y1), .val (.int y2), .val (.int y3), .val (.int y4), .val (.int (3 : Int32)), .val (.int xb0), .val (.int xb1), .val (.int v39), .unset, .unset] [])) _
      refine XS.iload X0.here hx rfl (hb hby at_41) rfl ?_
      show Steps p.tables e below (s₁.setTop (mkF m 43 #[.val (.int y1), .val (.int y2), .val (.int y3), .val (.int y4), .val (.int (3 : Int32)), .val (.int xb0), .val (.int xb1), .val (.int v39), .unset, .unset] [(.int (3 : Int32))])) _
      refine st55 _ ?_
      show Steps p.tables e below (T55.setTop (mkF m 45 #[.val (.int y1), .val (.int y2), .val (.int y3), .val (.int y4), .val (.int (3 : Int32)), .val (.int xb0), .val (.int xb1), .val (.int v39), .unset, .unset] [(.ref b55)])) _
      refine XS.astore X55.here hx rfl (hb hby at_45) rfl rfl (l' := #[.val (.int y1), .val (.int y2), .val (.int y3), .val (.int y4), .val (.int (3 : Int32)), .val (.int xb0), .val (.int xb1), .val (.int v39), .val (.ref b55), .unset]) rfl ?_
      show Steps p.tables e below (T55.setTop (mkF m 47 #[.val (.int y1), .val (.int y2), .val (.int y3), .val (.int y4), .val (.int (3 : Int32)), .val (.int xb0), .val (.int xb1), .val (.int v39), .val (.ref b55), .unset] [])) _
      refine XS.iload X55.here hx rfl (hb hby at_47) rfl ?_
      show Steps p.tables e below (T55.setTop (mkF m 49 #[.val (.int y1), .val (.int y2), .val (.int y3), .val (.int y4), .val (.int (3 : Int32)), .val (.int xb0), .val (.int xb1), .val (.int v39), .val (.ref b55), .unset] [(.int (3 : Int32))])) _
      refine XS.ifNo X55.here hx rfl (hb hby at_49) rfl ((if0 _ _).trans (tlt hd57).2.2.2) ?_
      show Steps p.tables e below (T55.setTop (mkF m 52 #[.val (.int y1), .val (.int y2), .val (.int y3), .val (.int y4), .val (.int (3 : Int32)), .val (.int xb0), .val (.int xb1), .val (.int v39), .val (.ref b55), .unset] [])) _
      refine XS.aload X55.here hx rfl (hb hby at_52) rfl rfl ?_
      show Steps p.tables e below (T55.setTop (mkF m 54 #[.val (.int y1), .val (.int y2), .val (.int y3), .val (.int y4), .val (.int (3 : Int32)), .val (.int xb0), .val (.int xb1), .val (.int v39), .val (.ref b55), .unset] [(.ref b55)])) _
      refine XS.iconst X55.here hx rfl (hb hby at_54) ?_
      show Steps p.tables e below (T55.setTop (mkF m 55 #[.val (.int y1), .val (.int y2), .val (.int y3), .val (.int y4), .val (.int (3 : Int32)), .val (.int xb0), .val (.int xb1), .val (.int v39), .val (.ref b55), .unset] [(.int (0 : Int32)), (.ref b55)])) _
      refine XS.iload X55.here hx rfl (hb hby at_55) rfl ?_
      show Steps p.tables e below (T55.setTop (mkF m 57 #[.val (.int y1), .val (.int y2), .val (.int y3), .val (.int y4), .val (.int (3 : Int32)), .val (.int xb0), .val (.int xb1), .val (.int v39), .val (.ref b55), .unset] [(.int xb0), (.int (0 : Int32)), (.ref b55)])) _
      refine st59 _ ?_
      show Steps p.tables e below (T59.setTop (mkF m 58 #[.val (.int y1), .val (.int y2), .val (.int y3), .val (.int y4), .val (.int (3 : Int32)), .val (.int xb0), .val (.int xb1), .val (.int v39), .val (.ref b55), .unset] [])) _
      refine XS.iload X59.here hx rfl (hb hby at_58) rfl ?_
      show Steps p.tables e below (T59.setTop (mkF m 60 #[.val (.int y1), .val (.int y2), .val (.int y3), .val (.int y4), .val (.int (3 : Int32)), .val (.int xb0), .val (.int xb1), .val (.int v39), .val (.ref b55), .unset] [(.int (3 : Int32))])) _
      refine XS.iconst X59.here hx rfl (hb hby at_60) ?_
      show Steps p.tables e below (T59.setTop (mkF m 61 #[.val (.int y1), .val (.int y2), .val (.int y3), .val (.int y4), .val (.int (3 : Int32)), .val (.int xb0), .val (.int xb1), .val (.int v39), .val (.ref b55), .unset] [(.int (1 : Int32)), (.int (3 : Int32))])) _
      refine XS.icmpNo X59.here hx rfl (hb hby at_61) rfl (tlt hd61).2.2.2 ?_
      show Steps p.tables e below (T59.setTop (mkF m 64 #[.val (.int y1), .val (.int y2), .val (.int y3), .val (.int y4), .val (.int (3 : Int32)), .val (.int xb0), .val (.int xb1), .val (.int v39), .val (.ref b55), .unset] [])) _
      refine XS.aload X59.here hx rfl (hb hby at_64) rfl rfl ?_
      show Steps p.tables e below (T59.setTop (mkF m 66 #[.val (.int y1), .val (.int y2), .val (.int y3), .val (.int y4), .val (.int (3 : Int32)), .val (.int xb0), .val (.int xb1), .val (.int v39), .val (.ref b55), .unset] [(.ref b55)])) _
      refine XS.iconst X59.here hx rfl (hb hby at_66) ?_
      show Steps p.tables e below (T59.setTop (mkF m 67 #[.val (.int y1), .val (.int y2), .val (.int y3), .val (.int y4), .val (.int (3 : Int32)), .val (.int xb0), .val (.int xb1), .val (.int v39), .val (.ref b55), .unset] [(.int (1 : Int32)), (.ref b55)])) _
      refine XS.iload X59.here hx rfl (hb hby at_67) rfl ?_
      show Steps p.tables e below (T59.setTop (mkF m 69 #[.val (.int y1), .val (.int y2), .val (.int y3), .val (.int y4), .val (.int (3 : Int32)), .val (.int xb0), .val (.int xb1), .val (.int v39), .val (.ref b55), .unset] [(.int xb1), (.int (1 : Int32)), (.ref b55)])) _
      refine st63 _ ?_
      show Steps p.tables e below (T63.setTop (mkF m 70 #[.val (.int y1), .val (.int y2), .val (.int y3), .val (.int y4), .val (.int (3 : Int32)), .val (.int xb0), .val (.int xb1), .val (.int v39), .val (.ref b55), .unset] [])) _
      refine XS.iload X63.here hx rfl (hb hby at_70) rfl ?_
      show Steps p.tables e below (T63.setTop (mkF m 72 #[.val (.int y1), .val (.int y2), .val (.int y3), .val (.int y4), .val (.int (3 : Int32)), .val (.int xb0), .val (.int xb1), .val (.int v39), .val (.ref b55), .unset] [(.int (3 : Int32))])) _
      refine XS.iconst X63.here hx rfl (hb hby at_72) ?_
      show Steps p.tables e below (T63.setTop (mkF m 73 #[.val (.int y1), .val (.int y2), .val (.int y3), .val (.int y4), .val (.int (3 : Int32)), .val (.int xb0), .val (.int xb1), .val (.int v39), .val (.ref b55), .unset] [(.int (2 : Int32)), (.int (3 : Int32))])) _
      refine XS.icmpNo X63.here hx rfl (hb hby at_73) rfl (tlt hd65).2.2.2 ?_
      show Steps p.tables e below (T63.setTop (mkF m 76 #[.val (.int y1), .val (.int y2), .val (.int y3), .val (.int y4), .val (.int (3 : Int32)), .val (.int xb0), .val (.int xb1), .val (.int v39), .val (.ref b55), .unset] [])) _
      refine XS.aload X63.here hx rfl (hb hby at_76) rfl rfl ?_
      show Steps p.tables e below (T63.setTop (mkF m 78 #[.val (.int y1), .val (.int y2), .val (.int y3), .val (.int y4), .val (.int (3 : Int32)), .val (.int xb0), .val (.int xb1), .val (.int v39), .val (.ref b55), .unset] [(.ref b55)])) _
      refine XS.iconst X63.here hx rfl (hb hby at_78) ?_
      show Steps p.tables e below (T63.setTop (mkF m 79 #[.val (.int y1), .val (.int y2), .val (.int y3), .val (.int y4), .val (.int (3 : Int32)), .val (.int xb0), .val (.int xb1), .val (.int v39), .val (.ref b55), .unset] [(.int (2 : Int32)), (.ref b55)])) _
      refine XS.iload X63.here hx rfl (hb hby at_79) rfl ?_
      show Steps p.tables e below (T63.setTop (mkF m 81 #[.val (.int y1), .val (.int y2), .val (.int y3), .val (.int y4), .val (.int (3 : Int32)), .val (.int xb0), .val (.int xb1), .val (.int v39), .val (.ref b55), .unset] [(.int v39), (.int (2 : Int32)), (.ref b55)])) _
      refine st67 _ ?_
      show Steps p.tables e below (T67.setTop (mkF m 82 #[.val (.int y1), .val (.int y2), .val (.int y3), .val (.int y4), .val (.int (3 : Int32)), .val (.int xb0), .val (.int xb1), .val (.int v39), .val (.ref b55), .unset] [])) _
      refine XS.iload X67.here hx rfl (hb hby at_82) rfl ?_
      show Steps p.tables e below (T67.setTop (mkF m 84 #[.val (.int y1), .val (.int y2), .val (.int y3), .val (.int y4), .val (.int (3 : Int32)), .val (.int xb0), .val (.int xb1), .val (.int v39), .val (.ref b55), .unset] [(.int (3 : Int32))])) _
      refine XS.iconst X67.here hx rfl (hb hby at_84) ?_
      show Steps p.tables e below (T67.setTop (mkF m 85 #[.val (.int y1), .val (.int y2), .val (.int y3), .val (.int y4), .val (.int (3 : Int32)), .val (.int xb0), .val (.int xb1), .val (.int v39), .val (.ref b55), .unset] [(.int (2 : Int32)), (.int (3 : Int32))])) _
      refine XS.icmpNo X67.here hx rfl (hb hby at_85) rfl (flt hd69).1 ?_
      show Steps p.tables e below (T67.setTop (mkF m 88 #[.val (.int y1), .val (.int y2), .val (.int y3), .val (.int y4), .val (.int (3 : Int32)), .val (.int xb0), .val (.int xb1), .val (.int v39), .val (.ref b55), .unset] [])) _
      refine XS.iload X67.here hx rfl (hb hby at_88) rfl ?_
      show Steps p.tables e below (T67.setTop (mkF m 90 #[.val (.int y1), .val (.int y2), .val (.int y3), .val (.int y4), .val (.int (3 : Int32)), .val (.int xb0), .val (.int xb1), .val (.int v39), .val (.ref b55), .unset] [(.int xb0)])) _
      refine XS.bipush X67.here hx rfl (hb hby at_90) ?_
      exact k
    obtain ⟨xe, hxe⟩ : ∃ w : Int32, w = (if xb0 = (31 : Int32) then (if xb1 = (-117 : Int32) then (1 : Int32) else (0 : Int32)) else (0 : Int32)) := ⟨_, rfl⟩
    have pre71 : ∀ t, Steps p.tables e below (T67.setTop (mkF m 107 #[.val (.int y1), .val (.int y2), .val (.int y3), .val (.int y4), .val (.int (3 : Int32)), .val (.int xb0), .val (.int xb1), .val (.int v39), .val (.ref b55), .unset] [(.int xe)])) t → Steps p.tables e below (s₁.setTop (entryFrame m #[(.int y1), (.int y2), (.int y3), (.int y4)] maxLocals)) t := by
      intro t k
      refine pre70 _ ?_
      by_cases hm92 : xb0 = (31 : Int32)
      · by_cases hm99 : xb1 = (-117 : Int32)
        · have hq := hxe
          rw [if_pos hm92, if_pos hm99] at hq
          rw [hq] at k
          show Steps p.tables e below (T67.setTop (mkF m 92 #[.val (.int y1), .val (.int y2), .val (.int y3), .val (.int y4), .val (.int (3 : Int32)), .val (.int xb0), .val (.int xb1), .val (.int v39), .val (.ref b55), .unset] [(.int (31 : Int32)), (.int xb0)])) _
          refine XS.icmpNo X67.here hx rfl (hb hby at_92) rfl (teq hm92).2 ?_
          show Steps p.tables e below (T67.setTop (mkF m 95 #[.val (.int y1), .val (.int y2), .val (.int y3), .val (.int y4), .val (.int (3 : Int32)), .val (.int xb0), .val (.int xb1), .val (.int v39), .val (.ref b55), .unset] [])) _
          refine XS.iload X67.here hx rfl (hb hby at_95) rfl ?_
          show Steps p.tables e below (T67.setTop (mkF m 97 #[.val (.int y1), .val (.int y2), .val (.int y3), .val (.int y4), .val (.int (3 : Int32)), .val (.int xb0), .val (.int xb1), .val (.int v39), .val (.ref b55), .unset] [(.int xb1)])) _
          refine XS.bipush X67.here hx rfl (hb hby at_97) ?_
          show Steps p.tables e below (T67.setTop (mkF m 99 #[.val (.int y1), .val (.int y2), .val (.int y3), .val (.int y4), .val (.int (3 : Int32)), .val (.int xb0), .val (.int xb1), .val (.int v39), .val (.ref b55), .unset] [(.int (-117 : Int32)), (.int xb1)])) _
          refine XS.icmpNo X67.here hx rfl (hb hby at_99) rfl (teq hm99).2 ?_
          show Steps p.tables e below (T67.setTop (mkF m 102 #[.val (.int y1), .val (.int y2), .val (.int y3), .val (.int y4), .val (.int (3 : Int32)), .val (.int xb0), .val (.int xb1), .val (.int v39), .val (.ref b55), .unset] [])) _
          refine XS.iconst X67.here hx rfl (hb hby at_102) ?_
          show Steps p.tables e below (T67.setTop (mkF m 103 #[.val (.int y1), .val (.int y2), .val (.int y3), .val (.int y4), .val (.int (3 : Int32)), .val (.int xb0), .val (.int xb1), .val (.int v39), .val (.ref b55), .unset] [(.int (1 : Int32))])) _
          refine XS.goto X67.here hx rfl (pc0 := 103) (pc' := 107) rfl (hb hby at_103) (by decide) (by decide) ?_
          exact k
        · have hq := hxe
          rw [if_pos hm92, if_neg hm99] at hq
          rw [hq] at k
          show Steps p.tables e below (T67.setTop (mkF m 92 #[.val (.int y1), .val (.int y2), .val (.int y3), .val (.int y4), .val (.int (3 : Int32)), .val (.int xb0), .val (.int xb1), .val (.int v39), .val (.ref b55), .unset] [(.int (31 : Int32)), (.int xb0)])) _
          refine XS.icmpNo X67.here hx rfl (hb hby at_92) rfl (teq hm92).2 ?_
          show Steps p.tables e below (T67.setTop (mkF m 95 #[.val (.int y1), .val (.int y2), .val (.int y3), .val (.int y4), .val (.int (3 : Int32)), .val (.int xb0), .val (.int xb1), .val (.int v39), .val (.ref b55), .unset] [])) _
          refine XS.iload X67.here hx rfl (hb hby at_95) rfl ?_
          show Steps p.tables e below (T67.setTop (mkF m 97 #[.val (.int y1), .val (.int y2), .val (.int y3), .val (.int y4), .val (.int (3 : Int32)), .val (.int xb0), .val (.int xb1), .val (.int v39), .val (.ref b55), .unset] [(.int xb1)])) _
          refine XS.bipush X67.here hx rfl (hb hby at_97) ?_
          show Steps p.tables e below (T67.setTop (mkF m 99 #[.val (.int y1), .val (.int y2), .val (.int y3), .val (.int y4), .val (.int (3 : Int32)), .val (.int xb0), .val (.int xb1), .val (.int v39), .val (.ref b55), .unset] [(.int (-117 : Int32)), (.int xb1)])) _
          refine XS.icmpYes X67.here hx rfl (pc0 := 99) (pc' := 106) rfl (hb hby at_99) rfl (feq hm99).2 (by decide) (by decide) ?_
          show Steps p.tables e below (T67.setTop (mkF m 106 #[.val (.int y1), .val (.int y2), .val (.int y3), .val (.int y4), .val (.int (3 : Int32)), .val (.int xb0), .val (.int xb1), .val (.int v39), .val (.ref b55), .unset] [])) _
          refine XS.iconst X67.here hx rfl (hb hby at_106) ?_
          exact k
      · have hq := hxe
        rw [if_neg hm92] at hq
        rw [hq] at k
        show Steps p.tables e below (T67.setTop (mkF m 92 #[.val (.int y1), .val (.int y2), .val (.int y3), .val (.int y4), .val (.int (3 : Int32)), .val (.int xb0), .val (.int xb1), .val (.int v39), .val (.ref b55), .unset] [(.int (31 : Int32)), (.int xb0)])) _
        refine XS.icmpYes X67.here hx rfl (pc0 := 92) (pc' := 106) rfl (hb hby at_92) rfl (feq hm92).2 (by decide) (by decide) ?_
        show Steps p.tables e below (T67.setTop (mkF m 106 #[.val (.int y1), .val (.int y2), .val (.int y3), .val (.int y4), .val (.int (3 : Int32)), .val (.int xb0), .val (.int xb1), .val (.int v39), .val (.ref b55), .unset] [])) _
        refine XS.iconst X67.here hx rfl (hb hby at_106) ?_
        exact k
    obtain ⟨_, _, ⟨T72, L72, k72, n72⟩, -, X72, ⟨Lc72, hQ72, l72, y72, z72⟩, st72⟩ := Jvm.LawKit.callS X67 hx (y := (⟨"com/example/stratafile/stratafile/codec/GzipInputStream", "startsWithMagic", "([B)Z"⟩ : MethodName)) hown (mvT hZ (hw _ (List.mem_of_getElem? (i := 1) rfl))) (mvT hZ (hw _ (List.mem_of_getElem? (i := 2) rfl))) (mvT hZ (hw _ (List.mem_of_getElem? (i := 3) rfl))) (mvT hZ (hw _ (List.mem_of_getElem? (i := 4) rfl))) (by decide) (backOf (W := 0) (own_rm1_3 l Z a0 hw [] b55 k55 (xb0.toInt8.toInt32) (xb1.toInt8.toInt32) (v39.toInt8.toInt32) h67 n0 Z67 F68) hZ (hw _ (List.mem_of_getElem? (i := 4) rfl)) (hw _ (List.mem_of_getElem? (i := 3) rfl)) (by decide) (by decide)) (g := (mkF m 111 #[.val (.int y1), .val (.int y2), .val (.int y3), .val (.int y4), .val (.int (3 : Int32)), .val (.int xb0), .val (.int xb1), .val (.int v39), .val (.ref b55), .val (.int xe)] [(.ref b55)])) rfl (by rw [hml]; rfl) (argsL := [(.ref b55)]) (rest := []) (lenOf own_pd0 rfl) rfl (by show 2 * 0 + _ ≤ _; exact Nat.le_of_eq rfl) (hb hby at_111) (fun _ _ => ⟨rfl, e67, (by decide : 1 + 0 ≤ _), (by decide : 3 + 0 ≤ _)⟩)
    dsimp only [Pt.U, Pt.locs, Pt.cells, Pt.slots] at X72 l72 y72 z72 st72 hQ72
    subst l72 y72 z72
    obtain ⟨rfl, N72q, eh72⟩ := hQ72
    have N72 := Fr.app N67 N72q
    have hd73 : (own_sw (xb0.toInt8.toInt32) (xb1.toInt8.toInt32)) = xe := (by rw [hxe]; unfold own_sw; simp only [own_e31 (own_byte hxb0 (by decide)), own_e139 (own_byte hxb1 (by decide))])
    obtain ⟨fs, hr, hrun, hended, hW, hsame⟩ := X72.leave (v := some (.int (1 : Int32))) (fun h => by rw [Bd.returns] at h; cases h)
    refine ⟨_, _, pre71 _ ?_, hrun, hended, _, _, rfl, ?_, ⟨_, rfl⟩, hW, hsame.mono (by decide) (by decide)⟩
    · show Steps p.tables e below (T67.setTop (mkF m 107 #[.val (.int y1), .val (.int y2), .val (.int y3), .val (.int y4), .val (.int (3 : Int32)), .val (.int xb0), .val (.int xb1), .val (.int v39), .val (.ref b55), .unset] [(.int xe)])) _
      refine XS.istore X67.here hx rfl (hb hby at_107) rfl (l' := #[.val (.int y1), .val (.int y2), .val (.int y3), .val (.int y4), .val (.int (3 : Int32)), .val (.int xb0), .val (.int xb1), .val (.int v39), .val (.ref b55), .val (.int xe)]) rfl ?_
      show Steps p.tables e below (T67.setTop (mkF m 109 #[.val (.int y1), .val (.int y2), .val (.int y3), .val (.int y4), .val (.int (3 : Int32)), .val (.int xb0), .val (.int xb1), .val (.int v39), .val (.ref b55), .val (.int xe)] [])) _
      refine XS.aload X67.here hx rfl (hb hby at_109) rfl rfl ?_
      show Steps p.tables e below (T67.setTop (mkF m 111 #[.val (.int y1), .val (.int y2), .val (.int y3), .val (.int y4), .val (.int (3 : Int32)), .val (.int xb0), .val (.int xb1), .val (.int v39), .val (.ref b55), .val (.int xe)] [(.ref b55)])) _
      refine st72 _ ?_
      show Steps p.tables e below (T72.setTop (mkF m 114 #[.val (.int y1), .val (.int y2), .val (.int y3), .val (.int y4), .val (.int (3 : Int32)), .val (.int xb0), .val (.int xb1), .val (.int v39), .val (.ref b55), .val (.int xe)] [(.int (own_sw (xb0.toInt8.toInt32) (xb1.toInt8.toInt32)))])) _
      refine XS.iload X72.here hx rfl (hb hby at_114) rfl ?_
      show Steps p.tables e below (T72.setTop (mkF m 116 #[.val (.int y1), .val (.int y2), .val (.int y3), .val (.int y4), .val (.int (3 : Int32)), .val (.int xb0), .val (.int xb1), .val (.int v39), .val (.ref b55), .val (.int xe)] [(.int xe), (.int (own_sw (xb0.toInt8.toInt32) (xb1.toInt8.toInt32)))])) _
      refine XS.icmpNo X72.here hx rfl (hb hby at_116) rfl (teq hd73).2 ?_
      show Steps p.tables e below (T72.setTop (mkF m 119 #[.val (.int y1), .val (.int y2), .val (.int y3), .val (.int y4), .val (.int (3 : Int32)), .val (.int xb0), .val (.int xb1), .val (.int v39), .val (.ref b55), .val (.int xe)] [])) _
      refine XS.iconst X72.here hx rfl (hb hby at_119) ?_
      show Steps p.tables e below (T72.setTop (mkF m 120 #[.val (.int y1), .val (.int y2), .val (.int y3), .val (.int y4), .val (.int (3 : Int32)), .val (.int xb0), .val (.int xb1), .val (.int v39), .val (.ref b55), .val (.int xe)] [(.int (1 : Int32))])) _
      refine XS.goto X72.here hx rfl (pc0 := 120) (pc' := 124) rfl (hb hby at_120) (by decide) (by decide) ?_
      show Steps p.tables e below (T72.setTop (mkF m 124 #[.val (.int y1), .val (.int y2), .val (.int y3), .val (.int y4), .val (.int (3 : Int32)), .val (.int xb0), .val (.int xb1), .val (.int v39), .val (.ref b55), .val (.int xe)] [(.int (1 : Int32))])) _
      exact retN X72 hx (t := .boolean) Bd.returns (by simp) (hb hby at_124) hr
    · show own_Q0 Z y1 y2 y3 y4 h0 n0 _ T72.heap _
      rw [eh72]
      exact ⟨rfl, N72⟩
set_option maxRecDepth 65536 in
set_option maxHeartbeats 40000000 in
theorem own_comes_1 {Post : Tables → Env → Array Value → State → Outcome → State → Prop} (hpost : ∀ tb e args s v u, (limb_1_1.after args s (.returned v) u = true ∧ limb_1_2.after args s (.returned v) u = true ∧ True) → FrameEnd s (.returned v) u (Jvm.fieldLocs frame_1_writes args s ++ Jvm.arrayLocs frame_1_arrays args s ++ Jvm.staticLocs frame_1_statics s) 16 128 → Post tb e args s (.returned v) u) :
    ArmFor flags0 classFile x code maxLocals ret World_1 tables_1 room_1 Calls_1 rest_1 Pre_1 Post := by
  intro l hfl _ _ p e ha hc hk s m args below hf hA hF happ hP
  obtain ⟨hcalls, hrest, hpre⟩ := hP
  obtain ⟨-, -, -, hnamed, -, -, -, hat⟩ := (Spec.applies_iff hf).mp happ
  obtain ⟨hg, hn⟩ := and_e (Cond.before_iff.mp (show (Jvm.Cond.and given_1 narrow_1).before args s = true from hpre))
  obtain ⟨gg1, gg2⟩ := and_e hg
  obtain ⟨gg3, gg4⟩ := and_e gg2
  obtain ⟨gg5, gg6⟩ := and_e gg4
  obtain ⟨gg7, gg8⟩ := and_e gg6
  obtain ⟨w0, w1, w2, w3, rfl⟩ : ∃ w0 w1 w2 w3 : Value, args = #[w0, w1, w2, w3] := by
    have hs : args.size = 4 := by simpa [Cond.value, given_1] using gg1
    obtain ⟨L⟩ := args
    match L, hs with
    | [w0, w1, w2, w3], _ => exact ⟨w0, w1, w2, w3, rfl⟩
  have hw := fun d (hd : d ∈ tables_1) => atoms_spec (ws := Jvm.Cond.code x code maxLocals ret :: tables_1) hat d (List.mem_cons_of_mem _ hd)
  have hfit : Fit s := fun {y c} hc i hi => by
    obtain ⟨ha, rfl⟩ := Array.getElem?_eq_some_iff.mp hc
    have q := List.all_eq_true.mp ((Array.all_eq_true_iff_forall_mem.mp hF) _ (Array.getElem_mem ha)) i (List.mem_range.mpr hi)
    simpa [Array.getElem?_eq_getElem hi] using q
  obtain ⟨i0, ei0⟩ := is_v gg3
  obtain rfl : w0 = (.int i0) := Option.some.inj ei0
  obtain ⟨i1, ei1⟩ := is_v gg5
  obtain rfl : w1 = (.int i1) := Option.some.inj ei1
  obtain ⟨i2, ei2⟩ := is_v gg7
  obtain rfl : w2 = (.int i2) := Option.some.inj ei2
  obtain ⟨i3, ei3⟩ := is_v gg8
  obtain rfl : w3 = (.int i3) := Option.some.inj ei3
  obtain ⟨n, o, h1, h2, h3, _, L, rfl, ⟨rfl, N⟩, hq⟩ := own_rm0 l s _ hw tables_1 i0 i1 i2 i3  s.heap s.heap.size (Nat.le_refl _)  p e ha hc hk s m _ below hf ((Spec.applies_iff_loose hf).mp happ).1 ⟨rfl, State.Warmed39.refl s, rfl⟩ trivial
  refine ⟨n, _, h1, h2, h3, hpost _ _ _ _ _ _ ⟨Cond.after_iff.mpr rfl, Cond.after_iff.mpr (eq_i res_at (Term.int_eval (1)) rfl), trivial⟩ ⟨hq.1, hq.2.1, (hq.2.2.sift fun y hy => Or.inr (N y hy)).mono (by decide) (by decide)⟩⟩
theorem main_1_1 : Claimed_1_1 := own_comes_1 fun _ _ _ _ _ _ h hF => ⟨h.1, hF⟩
theorem main_1_2 : Claimed_1_2 := own_comes_1 fun _ _ _ _ _ _ h hF => ⟨h.2.1, hF⟩
end Jvm.Pilot.@@N@@
namespace Jvm.Pilot.@@N@@
open Jvm Jvm.ClassFile Sem Op Lib Jvm.Free Jvm.Stand Jvm.Pilot.@@N@@.Jvm.D
/-! MADE BY PROGRAM (witnessworld.py) out of the Statement's table words and the real class files: 13 classes; the members and pool entries that the words name. The judged class is class 1, her method 1. -/
namespace start1
open Jvm.ClassFile
def u (s : String) : CpInfo := .utf8 (stringToUtf16 s)
/-- a pool by its gaps: so many unusable entries, then the entry; so many at the end -/
def gap : Nat → List CpInfo → List CpInfo
  | 0, r => r
  | n + 1, r => .unusable :: gap n r
def poolList (es : List (Nat × CpInfo)) (last : Nat) : List CpInfo := es.foldr (fun e r => gap e.1 (e.2 :: r)) (gap last [])
def pool (es : List (Nat × CpInfo)) (last : Nat) : Array CpInfo := ⟨poolList es last⟩
def fileOf (pool : Array CpInfo) (this : Nat) (attrs : Array Attribute := #[]) (ms : Array MethodInfo := #[]) (fl : Nat := 33) (sup : Nat := 0) (ifs : Array Nat := #[]) (fds : Array FieldInfo := #[]) : ClassFile where
  minorVersion := 0
  majorVersion := 65
  constantPool := pool
  accessFlags := fl
  thisClass := this
  superClass := sup
  interfaces := ifs
  fields := fds
  methods := ms
  attributes := attrs
def plain (name : String) (sup : Option ClassId) : Class where
  name := name
  kind := .ordinary
  loader := none
  accessFlags := 33
  super := sup
  interfaces := #[]
  cf := none
  fields := #[]
  methods := #[]
  instanceTypes := #[]
  staticTypes := #[]
  resolved := #[]
  callSites := []
  init := .initialized
  statics := none
  mirror := none

def pool0 : Array CpInfo := pool [(5, u "<init>"), (0, u "()V"), (1, .class_ 10), (1, u "java/lang/Object")] 113

def k0m0 : Method := { name := "<init>", desc := "()V", sig := { parameters := [], returnType := none }, accessFlags := 1, code := none }
/-- java/lang/Object -/
def k0 : Class := { plain "java/lang/Object" none with
  accessFlags := 33
  interfaces := #[]
  cf := some (fileOf pool0 8 #[] #[{ accessFlags := 1, nameIndex := 5, descriptorIndex := 6, attributes := #[] }] 33 0 #[] #[])
  fields := #[]
  methods := #[k0m0]
  instanceTypes := #[]
  staticTypes := #[]
  resolved := Array.replicate 124 none
  statics := none }

def pool1 : Array CpInfo := pool [(2, .class_ 4), (1, u "java/lang/Object"), (0, u "<init>"), (0, u "()V"), (0, .methodref 8 9), (0, .class_ 10), (0, .nameAndType 11 12), (0, u "com/example/stratafile/stratafile/codec/GzipInputStream"), (0, u "startsWithMagic"), (0, u "([B)Z"), (0, .class_ 14), (0, u "com/example/stratafile/stratafile/codec/GzipInputStreamStartsWithMagicPinLaw"), (2, u "law"), (0, u "(IIII)Z")] 5

def k1m0 : Method := { name := "<init>", desc := "()V", sig := { parameters := [], returnType := none }, accessFlags := 1, code := none }
def k1c1 : Code := { maxStack := 3, maxLocals := 10, code := code, exceptionTable := #[], attributes := #[] }
def k1m1 : Method := { name := "law", desc := "(IIII)Z", sig := { parameters := [.int, .int, .int, .int], returnType := some .boolean }, accessFlags := 9, code := some k1c1 }
/-- com/example/stratafile/stratafile/codec/GzipInputStreamStartsWithMagicPinLaw -/
def k1 : Class := { plain "com/example/stratafile/stratafile/codec/GzipInputStreamStartsWithMagicPinLaw" (some 0) with
  accessFlags := 49
  interfaces := #[]
  cf := some (fileOf pool1 13 #[] #[{ accessFlags := 1, nameIndex := 5, descriptorIndex := 6, attributes := #[] }, { accessFlags := 9, nameIndex := 17, descriptorIndex := 18, attributes := #[] }] 49 2 #[] #[])
  fields := #[]
  methods := #[k1m0, k1m1]
  instanceTypes := #[]
  staticTypes := #[]
  resolved := Array.replicate 24 none
  statics := none }

def pool2 : Array CpInfo := pool [(1, .class_ 2), (0, u "java/lang/AutoCloseable"), (0, .class_ 4), (0, u "java/lang/Object")] 7

/-- java/lang/AutoCloseable -/
def k2 : Class := { plain "java/lang/AutoCloseable" (some 0) with
  accessFlags := 1537
  interfaces := #[]
  cf := some (fileOf pool2 1 #[] #[] 1537 3 #[] #[])
  fields := #[]
  methods := #[]
  instanceTypes := #[]
  staticTypes := #[]
  resolved := Array.replicate 12 none
  statics := none }

def pool3 : Array CpInfo := pool [(1, .class_ 2), (0, u "java/io/Closeable"), (0, .class_ 4), (0, u "java/lang/Object"), (0, .class_ 6), (0, u "java/lang/AutoCloseable")] 7

/-- java/io/Closeable -/
def k3 : Class := { plain "java/io/Closeable" (some 0) with
  accessFlags := 1537
  interfaces := #[2]
  cf := some (fileOf pool3 1 #[] #[] 1537 3 #[5] #[])
  fields := #[]
  methods := #[]
  instanceTypes := #[]
  staticTypes := #[]
  resolved := Array.replicate 14 none
  statics := none }

def pool4 : Array CpInfo := pool [(4, .class_ 6), (1, u "java/lang/Object"), (0, u "<init>"), (0, u "()V"), (0, .class_ 10), (0, u "java/io/InputStream$1"), (2, .class_ 15), (1, u "java/io/InputStream"), (116, .class_ 133), (0, u "java/io/Closeable"), (0, u "MAX_SKIP_BUFFER_SIZE"), (0, u "I"), (2, u "DEFAULT_BUFFER_SIZE"), (1, u "MAX_BUFFER_SIZE")] 54

def k4m0 : Method := { name := "<init>", desc := "()V", sig := { parameters := [], returnType := none }, accessFlags := 1, code := none }
/-- java/io/InputStream -/
def k4 : Class := { plain "java/io/InputStream" (some 0) with
  accessFlags := 1057
  interfaces := #[3]
  cf := some (fileOf pool4 13 #[.nestMembers #[9]] #[{ accessFlags := 1, nameIndex := 7, descriptorIndex := 8, attributes := #[] }] 1057 4 #[132] #[{ accessFlags := 26, nameIndex := 134, descriptorIndex := 135, attributes := #[] }, { accessFlags := 26, nameIndex := 138, descriptorIndex := 135, attributes := #[] }, { accessFlags := 26, nameIndex := 140, descriptorIndex := 135, attributes := #[] }])
  fields := #[{ name := "MAX_SKIP_BUFFER_SIZE", type := .int, accessFlags := 26, slot := 0, constantValue := 0 }, { name := "DEFAULT_BUFFER_SIZE", type := .int, accessFlags := 26, slot := 1, constantValue := 0 }, { name := "MAX_BUFFER_SIZE", type := .int, accessFlags := 26, slot := 2, constantValue := 0 }]
  methods := #[k4m0]
  instanceTypes := #[]
  staticTypes := #[.int, .int, .int]
  resolved := Array.replicate 195 none
  statics := none }

def pool5 : Array CpInfo := pool [(2, .class_ 4), (1, u "java/io/InputStream"), (3, .class_ 10), (1, u "com/example/stratafile/stratafile/codec/DecoderStream"), (0, u "single"), (0, u "[B"), (1, u "input"), (10, u "Lcom/example/stratafile/stratafile/codec/DecoderInput;")] 28

/-- com/example/stratafile/stratafile/codec/DecoderStream -/
def k5 : Class := { plain "com/example/stratafile/stratafile/codec/DecoderStream" (some 4) with
  accessFlags := 1057
  interfaces := #[]
  cf := some (fileOf pool5 8 #[] #[] 1057 2 #[] #[{ accessFlags := 20, nameIndex := 14, descriptorIndex := 25, attributes := #[] }, { accessFlags := 18, nameIndex := 11, descriptorIndex := 12, attributes := #[] }])
  fields := #[{ name := "input", type := (.object "com/example/stratafile/stratafile/codec/DecoderInput"), accessFlags := 20, slot := 0, constantValue := 0 }, { name := "single", type := (.array .byte), accessFlags := 18, slot := 1, constantValue := 0 }]
  methods := #[]
  instanceTypes := #[(.object "com/example/stratafile/stratafile/codec/DecoderInput"), (.array .byte)]
  staticTypes := #[]
  resolved := Array.replicate 54 none
  statics := none }

def pool6 : Array CpInfo := pool [(4, .class_ 6), (1, u "com/example/stratafile/stratafile/codec/GzipInputStream"), (15, .class_ 24), (1, u "com/example/stratafile/stratafile/codec/DecoderStream"), (8, u "check"), (0, u "Ljava/util/zip/CRC32;"), (2, u "headerCheck"), (2, u "deflate"), (0, u "Lcom/example/stratafile/stratafile/codec/InflaterInput;"), (28, u "ended"), (0, u "Z"), (2, u "inMember"), (17, u "memberLength"), (0, u "J"), (12, u "anyMember"), (59, u "MAX_EXPANSION"), (0, u "I"), (2, u "DATA"), (0, u "Ljava/lang/String;"), (0, u "MAGIC_1"), (1, u "MAGIC_2"), (1, u "METHOD_DEFLATE"), (1, u "FLAG_HEADER_CHECK"), (1, u "FLAG_EXTRA"), (1, u "FLAG_NAME"), (0, u "FLAG_COMMENT"), (1, u "FLAGS_RESERVED"), (1, u "FIXED_HEADER_REST"), (5, u "startsWithMagic"), (0, u "([B)Z")] 43

def k6c0 : Code := { maxStack := 2, maxLocals := 1, code := prog_45_method_5_code, exceptionTable := #[], attributes := #[] }
def k6m0 : Method := { name := "startsWithMagic", desc := "([B)Z", sig := { parameters := [(.array .byte)], returnType := some .boolean }, accessFlags := 9, code := some k6c0 }
/-- com/example/stratafile/stratafile/codec/GzipInputStream -/
def k6 : Class := { plain "com/example/stratafile/stratafile/codec/GzipInputStream" (some 5) with
  accessFlags := 49
  interfaces := #[]
  cf := some (fileOf pool6 4 #[] #[{ accessFlags := 9, nameIndex := 193, descriptorIndex := 194, attributes := #[] }] 49 22 #[] #[{ accessFlags := 25, nameIndex := 166, descriptorIndex := 167, attributes := #[] }, { accessFlags := 26, nameIndex := 170, descriptorIndex := 171, attributes := #[] }, { accessFlags := 26, nameIndex := 172, descriptorIndex := 167, attributes := #[] }, { accessFlags := 26, nameIndex := 174, descriptorIndex := 167, attributes := #[] }, { accessFlags := 26, nameIndex := 176, descriptorIndex := 167, attributes := #[] }, { accessFlags := 26, nameIndex := 178, descriptorIndex := 167, attributes := #[] }, { accessFlags := 26, nameIndex := 180, descriptorIndex := 167, attributes := #[] }, { accessFlags := 26, nameIndex := 182, descriptorIndex := 167, attributes := #[] }, { accessFlags := 26, nameIndex := 183, descriptorIndex := 167, attributes := #[] }, { accessFlags := 26, nameIndex := 185, descriptorIndex := 167, attributes := #[] }, { accessFlags := 26, nameIndex := 187, descriptorIndex := 167, attributes := #[] }, { accessFlags := 18, nameIndex := 40, descriptorIndex := 41, attributes := #[] }, { accessFlags := 18, nameIndex := 33, descriptorIndex := 34, attributes := #[] }, { accessFlags := 18, nameIndex := 37, descriptorIndex := 34, attributes := #[] }, { accessFlags := 2, nameIndex := 74, descriptorIndex := 71, attributes := #[] }, { accessFlags := 2, nameIndex := 106, descriptorIndex := 71, attributes := #[] }, { accessFlags := 2, nameIndex := 70, descriptorIndex := 71, attributes := #[] }, { accessFlags := 2, nameIndex := 92, descriptorIndex := 93, attributes := #[] }])
  fields := #[{ name := "MAX_EXPANSION", type := .int, accessFlags := 25, slot := 0, constantValue := 0 }, { name := "DATA", type := (.object "java/lang/String"), accessFlags := 26, slot := 1, constantValue := 0 }, { name := "MAGIC_1", type := .int, accessFlags := 26, slot := 2, constantValue := 0 }, { name := "MAGIC_2", type := .int, accessFlags := 26, slot := 3, constantValue := 0 }, { name := "METHOD_DEFLATE", type := .int, accessFlags := 26, slot := 4, constantValue := 0 }, { name := "FLAG_HEADER_CHECK", type := .int, accessFlags := 26, slot := 5, constantValue := 0 }, { name := "FLAG_EXTRA", type := .int, accessFlags := 26, slot := 6, constantValue := 0 }, { name := "FLAG_NAME", type := .int, accessFlags := 26, slot := 7, constantValue := 0 }, { name := "FLAG_COMMENT", type := .int, accessFlags := 26, slot := 8, constantValue := 0 }, { name := "FLAGS_RESERVED", type := .int, accessFlags := 26, slot := 9, constantValue := 0 }, { name := "FIXED_HEADER_REST", type := .int, accessFlags := 26, slot := 10, constantValue := 0 }, { name := "deflate", type := (.object "com/example/stratafile/stratafile/codec/InflaterInput"), accessFlags := 18, slot := 2, constantValue := 0 }, { name := "check", type := (.object "java/util/zip/CRC32"), accessFlags := 18, slot := 3, constantValue := 0 }, { name := "headerCheck", type := (.object "java/util/zip/CRC32"), accessFlags := 18, slot := 4, constantValue := 0 }, { name := "inMember", type := .boolean, accessFlags := 2, slot := 5, constantValue := 0 }, { name := "anyMember", type := .boolean, accessFlags := 2, slot := 6, constantValue := 0 }, { name := "ended", type := .boolean, accessFlags := 2, slot := 7, constantValue := 0 }, { name := "memberLength", type := .long, accessFlags := 2, slot := 8, constantValue := 0 }]
  methods := #[k6m0]
  instanceTypes := #[(.object "com/example/stratafile/stratafile/codec/DecoderInput"), (.array .byte), (.object "com/example/stratafile/stratafile/codec/InflaterInput"), (.object "java/util/zip/CRC32"), (.object "java/util/zip/CRC32"), .boolean, .boolean, .boolean, .long]
  staticTypes := #[.int, (.object "java/lang/String"), .int, .int, .int, .int, .int, .int, .int, .int, .int]
  resolved := Array.replicate 238 none
  statics := none }

def pool7 : Array CpInfo := pool [(1, u "java/lang/Cloneable"), (0, .class_ 1), (0, u "java/lang/Object"), (0, .class_ 3)] 3

/-- java/lang/Cloneable -/
def k7 : Class := { plain "java/lang/Cloneable" (some 0) with
  accessFlags := 1537
  interfaces := #[]
  cf := some (fileOf pool7 2 #[] #[] 1537 4 #[] #[])
  fields := #[]
  methods := #[]
  instanceTypes := #[]
  staticTypes := #[]
  resolved := Array.replicate 8 none
  statics := none }

def pool8 : Array CpInfo := pool [(1, u "java/io/Serializable"), (0, .class_ 1), (0, u "java/lang/Object"), (0, .class_ 3)] 3

/-- java/io/Serializable -/
def k8 : Class := { plain "java/io/Serializable" (some 0) with
  accessFlags := 1537
  interfaces := #[]
  cf := some (fileOf pool8 2 #[] #[] 1537 4 #[] #[])
  fields := #[]
  methods := #[]
  instanceTypes := #[]
  staticTypes := #[]
  resolved := Array.replicate 8 none
  statics := none }

/-- the primitive byte -/
def k9 : Class := { plain "byte" none with kind := .primitive 'B', accessFlags := 0x411 }
/-- [B -/
def k10 : Class := { plain "[B" (some 0) with kind := .array 9 .byte, interfaces := #[7, 8], accessFlags := 1041 }

/-- the primitive int -/
def k11 : Class := { plain "int" none with kind := .primitive 'I', accessFlags := 0x411 }
/-- [I -/
def k12 : Class := { plain "[I" (some 0) with kind := .array 11 .int, interfaces := #[7, 8], accessFlags := 1041 }

def heap : Heap := #[]
def classes : Array Class := #[k0, k1, k2, k3, k4, k5, k6, k7, k8, k9, k10, k11, k12]
def interned : List (Array UInt16 × Addr) := []
def slotsUsed : Nat := 0
def theMethod : MethodId := ⟨1, 1⟩
def args0 : Array Value := #[.int 5, .int 6, .int 7, .int 8]
def aboutOver (below : List Frame) : State where
  vm := { classes := classes, interned := interned.toArray }
  heap := heap
  slotsUsed := slotsUsed
  threads := #[{ frames := .invoking theMethod args0 :: below }]
def below0 : List Frame := [.native { method := ⟨0, 0⟩, args := #[] }]
def about1 : State := aboutOver below0
def p0 : Program := .bare "" "" ""
def e0 : Env := launch0.env 0 0 0
theorem w_frames : about1.frames = Frame.invoking theMethod args0 :: below0 := rfl
set_option maxRecDepth 65536 in
theorem w_args : argsFit about1.vm theMethod args0 = true := by decide +kernel
set_option maxRecDepth 65536 in
theorem w_heap : heapFits about1 = true := by decide +kernel
set_option maxRecDepth 65536 in
theorem w_runnable : about1.curStatus? = some .runnable := by decide +kernel
set_option maxRecDepth 65536 in
theorem w_alone : about1.alone = true := by decide +kernel
set_option maxRecDepth 65536 in
theorem w_named : about1.methodNamed? x = some theMethod := by decide +kernel
set_option maxRecDepth 65536 in
theorem w_hears : about1.hears theMethod below0 = true := by decide +kernel
set_option maxRecDepth 65536 in
theorem w_ripe : about1.ripe theMethod args0 below0 = true := by decide +kernel
theorem w_running : about1.status = .running := rfl
set_option maxRecDepth 65536 in
theorem w_room : about1.hasRoom e0.platform room_1 = true :=
  launch0.hasRoom_least _ room_1 (by decide +kernel) (by decide +kernel) (by decide +kernel) (by decide +kernel) (by decide +kernel) (by decide +kernel)
theorem allAtoms_all (ts : List Jvm.Cond) (a : Array Jvm.Value) (st : Jvm.State) : (allAtoms ts).before a st = ts.all (fun c => c.before a st) := by
  induction ts with
  | nil => rfl
  | cons c t ih =>
    show (Jvm.Cond.and c (allAtoms t)).before a st = _
    rw [Jvm.Cond.before_and, ih, List.all_cons]
def words1 : List Jvm.Cond := Jvm.Cond.code x code maxLocals ret :: tables_1
/-- a 'code' word, met by the world's own term for the bytes: nothing is compared byte by byte -/
theorem code_word {y : MethodName} {bytes : ByteArray} {mx : Nat} {rt : Option FieldType} {a : Array Value} {s : State} {m : MethodId} {meth : Method} {c : Code} (h1 : s.methodNamed? y = some m) (h2 : s.vm.method? m = some meth) (h3 : meth.code = some c) (h4 : c.code = bytes)
    (h5 : (c.maxLocals == mx && c.exceptionTable.isEmpty && decide (c.maxStack ≤ mostOperands) && decide (meth.sig.returnType = rt) && !meth.locks && decide (parseMethodDescriptor y.desc = some meth.sig)) = true) : (Jvm.Cond.code y bytes mx rt).before a s = true := by
  simp only [Bool.and_eq_true, beq_iff_eq, Bool.not_eq_true', decide_eq_true_eq] at h5
  obtain ⟨⟨⟨⟨⟨g1, g2⟩, g3⟩, g4⟩, g5⟩, g6⟩ := h5
  simp [Cond.before, Cond.holds, Cond.value, h1, h2, h3, h4, g1, g2, g3, g4, g5, g6]
def isCode : Jvm.Cond → Bool
  | .code _ _ _ _ => true
  | _ => false
theorem all_split {L : List Jvm.Cond} {P : Jvm.Cond → Bool} (h1 : L.all (fun c => isCode c || P c) = true) (h2 : ∀ c ∈ L.filter isCode, P c = true) : L.all P = true := by
  refine List.all_eq_true.mpr fun c hc => ?_
  have h := List.all_eq_true.mp h1 c hc
  rcases Bool.eq_false_or_eq_true (isCode c) with hi | hi
  · exact h2 c (List.mem_filter.mpr ⟨hc, hi⟩)
  · simpa [hi] using h
set_option maxRecDepth 65536 in
theorem w_c0 : (Jvm.Cond.code x code maxLocals ret).before args0 about1 = true := code_word (m := ⟨1, 1⟩) (meth := k1m1) (c := k1c1) (by decide +kernel) rfl rfl rfl (by decide +kernel)
set_option maxRecDepth 65536 in
theorem w_c1 : (Jvm.Cond.code ({ cls := "com/example/stratafile/stratafile/codec/GzipInputStream", name := "startsWithMagic", desc := "([B)Z" } : Jvm.MethodName) prog_45_method_5_code (1 : Nat) (Option.some Jvm.ClassFile.FieldType.boolean)).before args0 about1 = true := code_word (m := ⟨6, 0⟩) (meth := k6m0) (c := k6c0) (by decide +kernel) rfl rfl rfl (by decide +kernel)
def codes1 : List Jvm.Cond := [Jvm.Cond.code x code maxLocals ret, Jvm.Cond.code ({ cls := "com/example/stratafile/stratafile/codec/GzipInputStream", name := "startsWithMagic", desc := "([B)Z" } : Jvm.MethodName) prog_45_method_5_code (1 : Nat) (Option.some Jvm.ClassFile.FieldType.boolean)]
set_option maxRecDepth 65536 in
theorem codes_eq : words1.filter isCode = codes1 := rfl
theorem w_codes : ∀ c ∈ words1.filter isCode, c.before args0 about1 = true := by
  rw [codes_eq]
  intro c hc
  simp only [codes1, List.mem_cons, List.not_mem_nil, or_false] at hc
  rcases hc with rfl | rfl
  · exact w_c0
  · exact w_c1
set_option maxRecDepth 65536 in
theorem w_t1 : words1.all (fun c => isCode c || c.before args0 about1) = true := by decide +kernel
theorem w_tables : (allAtoms (Jvm.Cond.code x code maxLocals ret :: tables_1)).before args0 about1 = true := by
  rw [allAtoms_all]
  show words1.all (fun c => c.before args0 about1) = true
  refine all_split ?_ w_codes
  rw [w_t1]
set_option maxRecDepth 65536 in
theorem w_case : (Jvm.Cond.and given_1 narrow_1).before args0 about1 = true := by decide +kernel
theorem w_applies : (headSpec (Jvm.Cond.code x code maxLocals ret :: tables_1) room_1).applies x e0.platform about1 = true :=
  (Spec.applies_iff w_frames).mpr ⟨w_running, w_runnable, w_alone, w_named, w_hears, w_ripe, w_room, w_tables⟩
theorem atStart : AtStart classFile x code maxLocals ret World_1 tables_1 room_1 Calls_1 rest_1 Pre_1 launch0 p0 e0 about1 theMethod args0 below0 :=
  ⟨lists_1, trivial, launch0.admits_env _ _ _, launch0.least_env, fairChoices_fair.cas, fairChoices_fair.clock, w_frames, w_args, w_heap, w_applies, trivial, trivial, w_case⟩
end start1
theorem witness_1 : WitnessClaimed_1 := ⟨start1.p0, start1.e0, start1.about1, start1.theMethod, start1.args0, start1.below0, start1.atStart⟩
end Jvm.Pilot.@@N@@
