import JvmDerived
import JvmDerived.Pilot.@@N@@Statement
import JvmDerived.Pilot.@@N@@Code
set_option linter.unusedVariables false
set_option linter.unusedSimpArgs false
namespace Jvm.RoadKit
open Sem ClassFile Op Lib Jvm.Stand Jvm.Free Jvm.LawKit
section New
variable {p : Program} {l : Launch} {e : Env} {R : Room} {s : State} {m : MethodId} {args : Array Value} {below : List Frame} {meth : Method} {c : Code} {T : State} {locs : List Loc} {cells slots : Nat}
theorem retI (X : Stand p l e R s m args below meth c T locs cells slots) (hx : p.tables.exec = Jvm.exec) {pc : Nat} {Ls : Array Slot} {z : Int32} {rest : List Value} (hret : meth.sig.returnType = some .int) (hd : decode c.code pc = .ok (.ireturn, 1)) {fs : List Frame}
    (hl : ∀ (f : JFrame) (acts : List Action), f.method = m → f.locked = none → f.entered = [] → (doReturn e (T.setTop f) acts (some (.int z))).1 = T.setFrames fs) : Steps p.tables e below (T.setTop (mkF m pc Ls (.int z :: rest))) (T.setFrames fs) :=
  retOut X hx hret rfl (Or.inl ⟨rfl, Or.inl rfl, z, rfl⟩) hd hl
theorem retJ (X : Stand p l e R s m args below meth c T locs cells slots) (hx : p.tables.exec = Jvm.exec) {pc : Nat} {Ls : Array Slot} {z : Int64} {rest : List Value} (hret : meth.sig.returnType = some .long) (hd : decode c.code pc = .ok (.lreturn, 1)) {fs : List Frame}
    (hl : ∀ (f : JFrame) (acts : List Action), f.method = m → f.locked = none → f.entered = [] → (doReturn e (T.setTop f) acts (some (.long z))).1 = T.setFrames fs) : Steps p.tables e below (T.setTop (mkF m pc Ls (.long z :: rest))) (T.setFrames fs) :=
  retOut X hx hret rfl (Or.inr (Or.inl ⟨rfl, rfl, z, rfl⟩)) hd hl
theorem retA (X : Stand p l e R s m args below meth c T locs cells slots) (hx : p.tables.exec = Jvm.exec) {pc : Nat} {Ls : Array Slot} {w : Value} {rest : List Value} {t : FieldType} (hret : meth.sig.returnType = some t) (ht : t.isReference = true) (hn : narrow t w = w) (hw : w.isRef = true) (hd : decode c.code pc = .ok (.areturn, 1)) {fs : List Frame}
    (hl : ∀ (f : JFrame) (acts : List Action), f.method = m → f.locked = none → f.entered = [] → (doReturn e (T.setTop f) acts (some w)).1 = T.setFrames fs) : Steps p.tables e below (T.setTop (mkF m pc Ls (w :: rest))) (T.setFrames fs) :=
  retOut X hx hret hn (Or.inr (Or.inr (Or.inr (Or.inr ⟨rfl, ht, hw⟩)))) hd hl
end New
end Jvm.RoadKit
namespace Jvm.Pilot.@@N@@
open Jvm Jvm.ClassFile Sem Op Lib Jvm.Free Jvm.Stand Jvm.LawKit Jvm.RoadKit Bundle Jvm.Pilot.@@N@@.Jvm.D
theorem own_ext {h0 h : Heap} (K : Keep h0 h []) : Ext h0 h := ⟨K.1, fun a c q => K.2.1 a c q nin0⟩

def own_se (x y : Int32) : Int32 := if x = y then 1 else 0
def own_tp (w m p : Int32) : Int64 := if own_se w m = (0 : Int32) then (if own_se p m = (0 : Int32) then 0 else 1) else 0
def own_fp (w m p : Int32) : Int64 := if own_se w m = (0 : Int32) then 0 else (if own_se p w = (0 : Int32) then 1 else 0)
def own_fn (w m p : Int32) : Int64 := if own_se w m = (0 : Int32) then (if own_se p m = (0 : Int32) then 1 else 0) else 0
def own_tn (w m p : Int32) : Int64 := if own_se w m = (0 : Int32) then 0 else (if own_se p w = (0 : Int32) then 0 else 1)
theorem own_one (w m p : Int32) : (((own_tp w m p + own_fp w m p) + own_fn w m p) + own_tn w m p) = (1 : Int64) := by
  unfold own_tp own_fp own_fn own_tn
  by_cases h1 : own_se w m = (0 : Int32) <;> by_cases h2 : own_se p m = (0 : Int32) <;> by_cases h3 : own_se p w = (0 : Int32) <;> simp only [h1, h2, h3, if_true, if_false, reduceIte] <;> decide
theorem own_se1 {x y : Int32} (h : ¬ (own_se x y = (0 : Int32))) : own_se x y = (1 : Int32) := by
  unfold own_se at h ⊢; split at h <;> simp_all
theorem own_sum (a b c d w m p : Int64) (h : (((w + m) + p) + d) = (1 : Int64)) : True := trivial
theorem own_c255 (x : Int32) : ¬ ((255 : Int32) < ((x &&& (255 : Int32)).toUInt32.toUInt16.toUInt32.toInt32)) := by
  rw [i2c_mask]
  have h := c_mask x 255 8 (by decide) (by decide)
  have k : (255 : Int32).toInt = 255 := by decide
  rw [Int32.lt_iff_toInt_lt]; omega
theorem own_lc (a b c : Int64) : a + (b + c) = b + (a + c) := by rw [← Int64.add_assoc, Int64.add_comm a b, Int64.add_assoc]
theorem own_plus (a b c d e f g h : Int64) (k : (((e + f) + g) + h) = (1 : Int64)) : ((((a + e) + (b + f)) + (c + g)) + (d + h)) = ((((a + b) + c) + d) + (1 : Int64)) := by
  rw [← k]; simp only [Int64.add_assoc, Int64.add_comm, own_lc]
theorem own_pn0 : plainName "java/lang/Record" = true := by first | (simp [plainName, overriddenIn]; done) | decide +kernel
theorem own_d7_0 : decode jdk_30_method_1_code 0 = .ok (.aload_n 0, 1) := by decide +kernel
theorem own_d7_1 : decode jdk_30_method_1_code 1 = .ok (.invokespecial 1, 3) := by decide +kernel
theorem own_d7_4 : decode jdk_30_method_1_code 4 = .ok (.return_, 1) := by decide +kernel
def own_Q7 (Z : State) (xthis : Addr) (h0 : Heap) (n0 : Nat) (v : Option Value) (h : Heap) (L : List Loc) : Prop := v = none ∧ Fr n0 L ∧ h = h0
theorem own_ef7 (m : MethodId) (xthis : Addr) : entryFrame m #[(.ref xthis)] 1 = mkF m 0 #[.val (.ref xthis)] [] := by first | (simp [entryFrame, mkF, argsToLocals, Value.category]; done) | rfl
set_option maxRecDepth 65536 in
set_option maxHeartbeats 40000000 in
theorem own_rm7 (l : Launch) (Z : State) (a0 : Array Value) (hw : ∀ d ∈ tables_1, d.before a0 Z = true) (ws : List Jvm.Cond) (xthis : Addr) (h0 : Heap) (n0 : Nat) (Z0 : n0 ≤ h0.size)  :
    MetFree l (⟨"java/lang/Record", "<init>", "()V"⟩ : MethodName) (head1 (Jvm.Cond.code (⟨"java/lang/Record", "<init>", "()V"⟩ : MethodName) jdk_30_method_1_code 1 none :: ws) ({ frames := 1, cells := 0, slots := 0, locals := 12 } : Room)) (fun a U => a = #[(.ref xthis)] ∧ Z.Warmed39 U.vm ∧ U.heap = h0) (fun _ _ _ _ _ => True) (fun _ U o U' => ∃ v L, o = .returned v ∧ own_Q7 Z xthis h0 n0 v U'.heap L ∧ FrameEnd U o U' L ({ frames := 1, cells := 0, slots := 0, locals := 12 } : Room).cells ({ frames := 1, cells := 0, slots := 0, locals := 12 } : Room).slots) := by
  refine MetFree.of_bodySF (plainFor_of_name own_pn0) hisR ?_
  intro p e s m args below meth c s₁ Bd hml0 hP hK
  obtain ⟨rfl, hZ, hh⟩ := hP
  have hx := Bd.exec
  have hby := Bd.bytes
  have hml : c.maxLocals = 1 := hml0
  have hown : s.vm.findClass "java/lang/Record" = some m.cls := findClass_of_methodNamed Bd.named
  have hnm := (name_of_methodNamed Bd.named Bd.method).1
  have X0 : Stand p l e ({ frames := 1, cells := 0, slots := 0, locals := 12 } : Room) s m #[(.ref xthis)] below meth c s₁ [] 0 0 := Stand.of_body Bd
  have e0 : s₁.heap = h0 := by rw [← hh, Bd.state]; rfl
  have N0 := Fr.nil n0
  have pre0 : ∀ t, Steps p.tables e below (s₁.setTop (mkF m 0 #[.val (.ref xthis)] [])) t → Steps p.tables e below (s₁.setTop (entryFrame m #[(.ref xthis)] 1)) t := fun t k => castTop (own_ef7 m xthis) k
  obtain ⟨T1, X1, e1, st1⟩ := initO X0 hx hZ hown (hw _ (List.mem_of_getElem? (i := 37) rfl)) (hw _ (List.mem_of_getElem? (i := 20) rfl)) (hw _ (List.mem_of_getElem? (i := 21) rfl)) e0 (g := (mkF m 1 #[.val (.ref xthis)] [(.ref xthis)])) rfl (by rw [hml]; rfl) rfl (hb hby own_d7_1) (by decide) (W := 0) (by show 2 * 0 + _ ≤ _; exact Nat.le_of_eq rfl) (by decide)
  obtain ⟨fs, hr, hrun, hended, hW, hsame⟩ := X1.leave (v := none) (fun _ => rfl)
  refine ⟨_, _, pre0 _ ?_, hrun, hended, _, _, rfl, ?_, ⟨_, rfl⟩, hW, hsame.mono (by decide) (by decide)⟩
  · show Steps p.tables e below (s₁.setTop (mkF m 0 #[.val (.ref xthis)] [])) _
    refine XS.aloadN X0.here hx rfl (hb hby own_d7_0) rfl rfl ?_
    show Steps p.tables e below (s₁.setTop (mkF m 1 #[.val (.ref xthis)] [(.ref xthis)])) _
    refine st1 _ ?_
    show Steps p.tables e below (T1.setTop (mkF m 4 #[.val (.ref xthis)] [])) _
    exact X1.returnOut hx Bd.returns (hb hby own_d7_4) hr
  · show own_Q7 Z xthis h0 n0 _ T1.heap _
    rw [e1]
    exact ⟨rfl, N0, rfl⟩
theorem own_pn1 : plainName "java/lang/StringLatin1" = true := by first | (simp [plainName, overriddenIn]; done) | decide +kernel
theorem own_d2_0 : decode jdk_43_method_3_code 0 = .ok (.iload_n 0, 1) := by decide +kernel
theorem own_d2_1 : decode jdk_43_method_3_code 1 = .ok (.sipush 255, 3) := by decide +kernel
theorem own_d2_4 : decode jdk_43_method_3_code 4 = .ok (.if_icmp .gt 7, 3) := by decide +kernel
theorem own_d2_7 : decode jdk_43_method_3_code 7 = .ok (.iconst 1, 1) := by decide +kernel
theorem own_d2_8 : decode jdk_43_method_3_code 8 = .ok (.goto 4, 3) := by decide +kernel
theorem own_d2_12 : decode jdk_43_method_3_code 12 = .ok (.ireturn, 1) := by decide +kernel
def own_Q2 (Z : State) (xc : Int32) (h0 : Heap) (n0 : Nat) (v : Option Value) (h : Heap) (L : List Loc) : Prop := v = some (.int (1 : Int32)) ∧ Fr n0 L ∧ h = h0
theorem own_ef2 (m : MethodId) (xc : Int32) : entryFrame m #[(.int xc)] 1 = mkF m 0 #[.val (.int xc)] [] := by first | (simp [entryFrame, mkF, argsToLocals, Value.category]; done) | rfl
set_option maxRecDepth 65536 in
set_option maxHeartbeats 40000000 in
theorem own_rm2 (l : Launch) (Z : State) (a0 : Array Value) (hw : ∀ d ∈ tables_1, d.before a0 Z = true) (ws : List Jvm.Cond) (xc : Int32) (h0 : Heap) (n0 : Nat) (Z0 : n0 ≤ h0.size) (hle : ¬ ((255 : Int32) < xc)) :
    MetFree l (⟨"java/lang/StringLatin1", "canEncode", "(C)Z"⟩ : MethodName) (head1 (Jvm.Cond.code (⟨"java/lang/StringLatin1", "canEncode", "(C)Z"⟩ : MethodName) jdk_43_method_3_code 1 (some .boolean) :: ws) ({ frames := 0, cells := 0, slots := 0, locals := 0 } : Room)) (fun a U => a = #[(.int xc)] ∧ Z.Warmed39 U.vm ∧ U.heap = h0) (fun _ _ _ _ _ => True) (fun _ U o U' => ∃ v L, o = .returned v ∧ own_Q2 Z xc h0 n0 v U'.heap L ∧ FrameEnd U o U' L ({ frames := 0, cells := 0, slots := 0, locals := 0 } : Room).cells ({ frames := 0, cells := 0, slots := 0, locals := 0 } : Room).slots) := by
  refine MetFree.of_bodySF (plainFor_of_name own_pn1) hisR ?_
  intro p e s m args below meth c s₁ Bd hml0 hP hK
  obtain ⟨rfl, hZ, hh⟩ := hP
  have hx := Bd.exec
  have hby := Bd.bytes
  have hml : c.maxLocals = 1 := hml0
  have hown : s.vm.findClass "java/lang/StringLatin1" = some m.cls := findClass_of_methodNamed Bd.named
  have hnm := (name_of_methodNamed Bd.named Bd.method).1
  have X0 : Stand p l e ({ frames := 0, cells := 0, slots := 0, locals := 0 } : Room) s m #[(.int xc)] below meth c s₁ [] 0 0 := Stand.of_body Bd
  have e0 : s₁.heap = h0 := by rw [← hh, Bd.state]; rfl
  have N0 := Fr.nil n0
  have pre0 : ∀ t, Steps p.tables e below (s₁.setTop (mkF m 0 #[.val (.int xc)] [])) t → Steps p.tables e below (s₁.setTop (entryFrame m #[(.int xc)] 1)) t := fun t k => castTop (own_ef2 m xc) k
  obtain ⟨fs, hr, hrun, hended, hW, hsame⟩ := X0.leave (v := some (.int (1 : Int32))) (fun h => by rw [Bd.returns] at h; cases h)
  refine ⟨_, _, pre0 _ ?_, hrun, hended, _, _, rfl, ?_, ⟨_, rfl⟩, hW, hsame.mono (by decide) (by decide)⟩
  · show Steps p.tables e below (s₁.setTop (mkF m 0 #[.val (.int xc)] [])) _
    refine XS.iloadN X0.here hx rfl (hb hby own_d2_0) rfl ?_
    show Steps p.tables e below (s₁.setTop (mkF m 1 #[.val (.int xc)] [(.int xc)])) _
    refine XS.sipush X0.here hx rfl (hb hby own_d2_1) ?_
    show Steps p.tables e below (s₁.setTop (mkF m 4 #[.val (.int xc)] [(.int (255 : Int32)), (.int xc)])) _
    refine XS.icmpNo X0.here hx rfl (hb hby own_d2_4) rfl (flt hle).2.2.1 ?_
    show Steps p.tables e below (s₁.setTop (mkF m 7 #[.val (.int xc)] [])) _
    refine XS.iconst X0.here hx rfl (hb hby own_d2_7) ?_
    show Steps p.tables e below (s₁.setTop (mkF m 8 #[.val (.int xc)] [(.int (1 : Int32))])) _
    refine XS.goto X0.here hx rfl (pc0 := 8) (pc' := 12) rfl (hb hby own_d2_8) (by decide) (by decide) ?_
    show Steps p.tables e below (s₁.setTop (mkF m 12 #[.val (.int xc)] [(.int (1 : Int32))])) _
    exact retN X0 hx (t := .boolean) Bd.returns (by simp) (hb hby own_d2_12) hr
  · show own_Q2 Z xc h0 n0 _ s₁.heap _
    rw [e0]
    exact ⟨rfl, N0, rfl⟩
theorem own_d3_0 : decode jdk_43_method_46_code 0 = .ok (.iconst 1, 1) := by decide +kernel
theorem own_d3_1 : decode jdk_43_method_46_code 1 = .ok (.newarray .byte, 2) := by decide +kernel
theorem own_d3_3 : decode jdk_43_method_46_code 3 = .ok (.dup, 1) := by decide +kernel
theorem own_d3_4 : decode jdk_43_method_46_code 4 = .ok (.iconst 0, 1) := by decide +kernel
theorem own_d3_5 : decode jdk_43_method_46_code 5 = .ok (.iload_n 0, 1) := by decide +kernel
theorem own_d3_6 : decode jdk_43_method_46_code 6 = .ok (.i2b, 1) := by decide +kernel
theorem own_d3_7 : decode jdk_43_method_46_code 7 = .ok (.bastore, 1) := by decide +kernel
theorem own_d3_8 : decode jdk_43_method_46_code 8 = .ok (.areturn, 1) := by decide +kernel
def own_Q3 (Z : State) (xc : Int32) (h0 : Heap) (n0 : Nat) (v : Option Value) (h : Heap) (L : List Loc) : Prop := ∃ (xn : Addr) (xk : ClassId), v = some (.ref xn) ∧ Fr n0 L ∧ Keep h0 h [] ∧ h0.size ≤ xn ∧ xn < h.size ∧ Arv Z h xn xk .byte (1 : Int32) [(.int ((xc.toInt8.toInt32).toInt8.toInt32))] (.int (0 : Int32))
theorem own_ef3 (m : MethodId) (xc : Int32) : entryFrame m #[(.int xc)] 1 = mkF m 0 #[.val (.int xc)] [] := by first | (simp [entryFrame, mkF, argsToLocals, Value.category]; done) | rfl
set_option maxRecDepth 65536 in
set_option maxHeartbeats 40000000 in
theorem own_rm3 (l : Launch) (Z : State) (a0 : Array Value) (hw : ∀ d ∈ tables_1, d.before a0 Z = true) (ws : List Jvm.Cond) (xc : Int32) (h0 : Heap) (n0 : Nat) (Z0 : n0 ≤ h0.size)  :
    MetFree l (⟨"java/lang/StringLatin1", "toBytes", "(C)[B"⟩ : MethodName) (head1 (Jvm.Cond.code (⟨"java/lang/StringLatin1", "toBytes", "(C)[B"⟩ : MethodName) jdk_43_method_46_code 1 (some (.array .byte)) :: ws) ({ frames := 0, cells := 1, slots := 1, locals := 0 } : Room)) (fun a U => a = #[(.int xc)] ∧ Z.Warmed39 U.vm ∧ U.heap = h0) (fun _ _ _ _ _ => True) (fun _ U o U' => ∃ v L, o = .returned v ∧ own_Q3 Z xc h0 n0 v U'.heap L ∧ FrameEnd U o U' L ({ frames := 0, cells := 1, slots := 1, locals := 0 } : Room).cells ({ frames := 0, cells := 1, slots := 1, locals := 0 } : Room).slots) := by
  refine MetFree.of_bodySF (plainFor_of_name own_pn1) hisR ?_
  intro p e s m args below meth c s₁ Bd hml0 hP hK
  obtain ⟨rfl, hZ, hh⟩ := hP
  have hx := Bd.exec
  have hby := Bd.bytes
  have hml : c.maxLocals = 1 := hml0
  have hown : s.vm.findClass "java/lang/StringLatin1" = some m.cls := findClass_of_methodNamed Bd.named
  have hnm := (name_of_methodNamed Bd.named Bd.method).1
  have X0 : Stand p l e ({ frames := 0, cells := 1, slots := 1, locals := 0 } : Room) s m #[(.int xc)] below meth c s₁ [] 0 0 := Stand.of_body Bd
  have e0 : s₁.heap = h0 := by rw [← hh, Bd.state]; rfl
  have N0 := Fr.nil n0
  have pre0 : ∀ t, Steps p.tables e below (s₁.setTop (mkF m 0 #[.val (.int xc)] [])) t → Steps p.tables e below (s₁.setTop (entryFrame m #[(.int xc)] 1)) t := fun t k => castTop (own_ef3 m xc) k
  have K0 : Keep h0 h0 [] := Keep.refl _ _
  obtain ⟨T1, h1, k1, X1, e1, E1, A1, st1⟩ := newP X0 hx hZ (hw _ (List.mem_of_getElem? (i := 14) rfl)) e0 (g := (mkF m 1 #[.val (.int xc)] [(.int (1 : Int32))])) rfl (hb hby own_d3_1) rfl (by decide) (cap := 1) (by decide) (by decide) (by decide) (by decide)
  obtain ⟨b1, g1⟩ : ∃ z, z = h0.size := ⟨_, rfl⟩
  rw [← g1] at A1 st1
  have g_b1 : n0 ≤ b1 := Nat.le_trans Z0 (Nat.le_of_eq g1.symm)
  have sz_b1 : h0.size ≤ b1 := Nat.le_trans K0.1 (Nat.le_of_eq g1.symm)
  have K1 : Keep h0 h1 [] := K0.ext E1
  have Z1 : n0 ≤ h1.size := Nat.le_trans Z0 E1.1
  have F2 : Arv Z h1 b1 k1 .byte (1 : Int32) [(.int (0 : Int32))] (.int (0 : Int32)) := (Arv.new A1 (by decide)).pad (pad_rep [] (.int (0 : Int32)) 1)
  obtain ⟨cl3, Ar3, q3, S3, M3, H3, G3⟩ := id F2
  obtain ⟨T4, h4, X4, e4, W4, st4⟩ := stB X1 hx hZ e1 Ar3 (j := (0 : Int32)) (inb_of S3 ⟨by decide, by decide⟩) (g := (mkF m 7 #[.val (.int xc)] [(.int (xc.toInt8.toInt32)), (.int (0 : Int32)), (.ref b1), (.ref b1)])) rfl rfl (hb hby own_d3_7)
  have F5 : Arv Z h4 b1 k1 .byte (1 : Int32) [(.int ((xc.toInt8.toInt32).toInt8.toInt32))] (.int (0 : Int32)) := Arv.set Ar3 q3 S3 M3 H3 G3 (fits_nar_byte _) W4 0 rfl (Nat.le_of_ble_eq_true rfl)
  have N4 := Fr.snoc X4 N0 g_b1
  have Z4 : n0 ≤ h4.size := Nat.le_trans Z1 (Keep.of_wr W4).1
  have K4 : Keep h0 h4 [] := K1.wr W4 (Or.inr sz_b1)
  obtain ⟨fs, hr, hrun, hended, hW, hsame⟩ := X4.leave (v := some (.ref b1)) (fun h => by rw [Bd.returns] at h; cases h)
  refine ⟨_, _, pre0 _ ?_, hrun, hended, _, _, rfl, ?_, ⟨_, rfl⟩, hW, hsame.mono (by decide) (by decide)⟩
  · show Steps p.tables e below (s₁.setTop (mkF m 0 #[.val (.int xc)] [])) _
    refine XS.iconst X0.here hx rfl (hb hby own_d3_0) ?_
    show Steps p.tables e below (s₁.setTop (mkF m 1 #[.val (.int xc)] [(.int (1 : Int32))])) _
    refine st1 _ ?_
    show Steps p.tables e below (T1.setTop (mkF m 3 #[.val (.int xc)] [(.ref b1)])) _
    refine XS.dup X1.here hx rfl (hb hby own_d3_3) rfl rfl ?_
    show Steps p.tables e below (T1.setTop (mkF m 4 #[.val (.int xc)] [(.ref b1), (.ref b1)])) _
    refine XS.iconst X1.here hx rfl (hb hby own_d3_4) ?_
    show Steps p.tables e below (T1.setTop (mkF m 5 #[.val (.int xc)] [(.int (0 : Int32)), (.ref b1), (.ref b1)])) _
    refine XS.iloadN X1.here hx rfl (hb hby own_d3_5) rfl ?_
    show Steps p.tables e below (T1.setTop (mkF m 6 #[.val (.int xc)] [(.int xc), (.int (0 : Int32)), (.ref b1), (.ref b1)])) _
    refine XS.i2b X1.here hx rfl (hb hby own_d3_6) rfl ?_
    show Steps p.tables e below (T1.setTop (mkF m 7 #[.val (.int xc)] [(.int (xc.toInt8.toInt32)), (.int (0 : Int32)), (.ref b1), (.ref b1)])) _
    refine st4 _ ?_
    show Steps p.tables e below (T4.setTop (mkF m 8 #[.val (.int xc)] [(.ref b1)])) _
    exact retA X4 hx Bd.returns rfl rfl rfl (hb hby own_d3_8) hr
  · show own_Q3 Z xc h0 n0 _ T4.heap _
    rw [e4]
    exact ⟨b1, k1, rfl, N4, K4, sz_b1, F5.lt, F5⟩
theorem own_pn2 : plainName "java/lang/String" = true := by first | (simp [plainName, overriddenIn]; done) | decide +kernel
theorem own_d4_0 : decode jdk_42_method_151_code 0 = .ok (.aload_n 0, 1) := by decide +kernel
theorem own_d4_1 : decode jdk_42_method_151_code 1 = .ok (.invokespecial 1, 3) := by decide +kernel
theorem own_d4_4 : decode jdk_42_method_151_code 4 = .ok (.aload_n 0, 1) := by decide +kernel
theorem own_d4_5 : decode jdk_42_method_151_code 5 = .ok (.aload_n 1, 1) := by decide +kernel
theorem own_d4_6 : decode jdk_42_method_151_code 6 = .ok (.putfield 9, 3) := by decide +kernel
theorem own_d4_9 : decode jdk_42_method_151_code 9 = .ok (.aload_n 0, 1) := by decide +kernel
theorem own_d4_10 : decode jdk_42_method_151_code 10 = .ok (.iload_n 2, 1) := by decide +kernel
theorem own_d4_11 : decode jdk_42_method_151_code 11 = .ok (.putfield 15, 3) := by decide +kernel
theorem own_d4_14 : decode jdk_42_method_151_code 14 = .ok (.return_, 1) := by decide +kernel
def own_Q4 (Z : State) (xthis : Addr) (x1 : Addr) (h0 : Heap) (n0 : Nat) (v : Option Value) (h : Heap) (L : List Loc) : Prop := v = none ∧ Fr n0 L ∧ Keep h0 h [xthis] ∧ Exa Z h xthis "java/lang/String" ∧ Fld Z h xthis "java/lang/String" "value" "[B" (.ref x1) ∧ Fld Z h xthis "java/lang/String" "coder" "B" (.int (0 : Int32))
theorem own_ef4 (m : MethodId) (xthis : Addr) (x1 : Addr) : entryFrame m #[(.ref xthis), (.ref x1), (.int (0 : Int32))] 3 = mkF m 0 #[.val (.ref xthis), .val (.ref x1), .val (.int (0 : Int32))] [] := by first | (simp [entryFrame, mkF, argsToLocals, Value.category]; done) | rfl
set_option maxRecDepth 65536 in
set_option maxHeartbeats 40000000 in
theorem own_rm4 (l : Launch) (Z : State) (a0 : Array Value) (hw : ∀ d ∈ tables_1, d.before a0 Z = true) (ws : List Jvm.Cond) (xthis : Addr) (x1 : Addr) (h0 : Heap) (n0 : Nat) (Z0 : n0 ≤ h0.size) (E_xthis : Exa Z h0 xthis "java/lang/String") (F_value_xthis : Fld Z h0 xthis "java/lang/String" "value" "[B" .null) (F_coder_xthis : Fld Z h0 xthis "java/lang/String" "coder" "B" (.int (0 : Int32))) (g_xthis : n0 ≤ xthis) :
    MetFree l (⟨"java/lang/String", "<init>", "([BB)V"⟩ : MethodName) (head1 (Jvm.Cond.code (⟨"java/lang/String", "<init>", "([BB)V"⟩ : MethodName) jdk_42_method_151_code 3 none :: ws) ({ frames := 1, cells := 0, slots := 0, locals := 12 } : Room)) (fun a U => a = #[(.ref xthis), (.ref x1), (.int (0 : Int32))] ∧ Z.Warmed39 U.vm ∧ U.heap = h0) (fun _ _ _ _ _ => True) (fun _ U o U' => ∃ v L, o = .returned v ∧ own_Q4 Z xthis x1 h0 n0 v U'.heap L ∧ FrameEnd U o U' L ({ frames := 1, cells := 0, slots := 0, locals := 12 } : Room).cells ({ frames := 1, cells := 0, slots := 0, locals := 12 } : Room).slots) := by
  refine MetFree.of_bodySF (plainFor_of_name own_pn2) hisR ?_
  intro p e s m args below meth c s₁ Bd hml0 hP hK
  obtain ⟨rfl, hZ, hh⟩ := hP
  have hx := Bd.exec
  have hby := Bd.bytes
  have hml : c.maxLocals = 3 := hml0
  have hown : s.vm.findClass "java/lang/String" = some m.cls := findClass_of_methodNamed Bd.named
  have hnm := (name_of_methodNamed Bd.named Bd.method).1
  have X0 : Stand p l e ({ frames := 1, cells := 0, slots := 0, locals := 12 } : Room) s m #[(.ref xthis), (.ref x1), (.int (0 : Int32))] below meth c s₁ [] 0 0 := Stand.of_body Bd
  have e0 : s₁.heap = h0 := by rw [← hh, Bd.state]; rfl
  have N0 := Fr.nil n0
  have pre0 : ∀ t, Steps p.tables e below (s₁.setTop (mkF m 0 #[.val (.ref xthis), .val (.ref x1), .val (.int (0 : Int32))] [])) t → Steps p.tables e below (s₁.setTop (entryFrame m #[(.ref xthis), (.ref x1), (.int (0 : Int32))] 3)) t := fun t k => castTop (own_ef4 m xthis x1) k
  have K0 : Keep h0 h0 [xthis] := Keep.refl _ _
  obtain ⟨T1, X1, e1, st1⟩ := initO X0 hx hZ hown (hw _ (List.mem_of_getElem? (i := 19) rfl)) (hw _ (List.mem_of_getElem? (i := 20) rfl)) (hw _ (List.mem_of_getElem? (i := 21) rfl)) e0 (g := (mkF m 1 #[.val (.ref xthis), .val (.ref x1), .val (.int (0 : Int32))] [(.ref xthis)])) rfl (by rw [hml]; rfl) rfl (hb hby own_d4_1) (by decide) (W := 0) (by show 2 * 0 + _ ≤ _; exact Nat.le_of_eq rfl) (by decide)
  obtain ⟨T2, h2, X2, e2, W2, st2⟩ := putF X1 hx hZ hown (host := "") (Or.inl (hw _ (List.mem_of_getElem? (i := 22) rfl))) Via.refl e1 F_value_xthis E_xthis (Or.inr ⟨(hw _ (List.mem_of_getElem? (i := 23) rfl)), rfl, hnm⟩) (hw _ (List.mem_of_getElem? (i := 10) rfl)) (ty := (.array .byte)) (by decide) rfl rfl (g := (mkF m 6 #[.val (.ref xthis), .val (.ref x1), .val (.int (0 : Int32))] [(.ref x1), (.ref xthis)])) rfl rfl (hb hby own_d4_6)
  have F3 : Fld Z h2 xthis "java/lang/String" "value" "[B" (.ref x1) := F_value_xthis.same W2
  have F4 : Exa Z h2 xthis "java/lang/String" := E_xthis.wr W2
  have F5 : Fld Z h2 xthis "java/lang/String" "coder" "B" (.int (0 : Int32)) := F_coder_xthis.other W2 (Or.inr (slot_ne (Or.inr (hw _ (List.mem_of_getElem? (i := 25) rfl))) (Or.inr (hw _ (List.mem_of_getElem? (i := 23) rfl))) (by decide) (t := .byte) (t' := (.array .byte)) (by decide) (by decide)))
  have N2 := Fr.snoc X2 N0 g_xthis
  have Z2 : n0 ≤ h2.size := Nat.le_trans Z0 (Keep.of_wr W2).1
  have K2 : Keep h0 h2 [xthis] := K0.wr W2 (Or.inl (List.mem_of_getElem? (i := 0) rfl))
  obtain ⟨T6, h6, X6, e6, W6, st6⟩ := putFN X2 hx hZ hown (hw _ (List.mem_of_getElem? (i := 24) rfl)) Via.refl e2 F5 F4 (Or.inr ⟨(hw _ (List.mem_of_getElem? (i := 25) rfl)), rfl, hnm⟩) (hw _ (List.mem_of_getElem? (i := 10) rfl)) (ty := .byte) (v' := (.int (0 : Int32))) (by decide) rfl (by decide) (g := (mkF m 11 #[.val (.ref xthis), .val (.ref x1), .val (.int (0 : Int32))] [(.int (0 : Int32)), (.ref xthis)])) rfl rfl (hb hby own_d4_11)
  have F7 : Fld Z h6 xthis "java/lang/String" "coder" "B" (.int (0 : Int32)) := F5.same W6
  have F8 : Exa Z h6 xthis "java/lang/String" := F4.wr W6
  have F9 : Fld Z h6 xthis "java/lang/String" "value" "[B" (.ref x1) := F3.other W6 (Or.inr (slot_ne (Or.inr (hw _ (List.mem_of_getElem? (i := 23) rfl))) (Or.inr (hw _ (List.mem_of_getElem? (i := 25) rfl))) (by decide) (t := (.array .byte)) (t' := .byte) (by decide) (by decide)))
  have N6 := Fr.snoc X6 N2 g_xthis
  have Z6 : n0 ≤ h6.size := Nat.le_trans Z2 (Keep.of_wr W6).1
  have K6 : Keep h0 h6 [xthis] := K2.wr W6 (Or.inl (List.mem_of_getElem? (i := 0) rfl))
  obtain ⟨fs, hr, hrun, hended, hW, hsame⟩ := X6.leave (v := none) (fun _ => rfl)
  refine ⟨_, _, pre0 _ ?_, hrun, hended, _, _, rfl, ?_, ⟨_, rfl⟩, hW, hsame.mono (by decide) (by decide)⟩
  · show Steps p.tables e below (s₁.setTop (mkF m 0 #[.val (.ref xthis), .val (.ref x1), .val (.int (0 : Int32))] [])) _
    refine XS.aloadN X0.here hx rfl (hb hby own_d4_0) rfl rfl ?_
    show Steps p.tables e below (s₁.setTop (mkF m 1 #[.val (.ref xthis), .val (.ref x1), .val (.int (0 : Int32))] [(.ref xthis)])) _
    refine st1 _ ?_
    show Steps p.tables e below (T1.setTop (mkF m 4 #[.val (.ref xthis), .val (.ref x1), .val (.int (0 : Int32))] [])) _
    refine XS.aloadN X1.here hx rfl (hb hby own_d4_4) rfl rfl ?_
    show Steps p.tables e below (T1.setTop (mkF m 5 #[.val (.ref xthis), .val (.ref x1), .val (.int (0 : Int32))] [(.ref xthis)])) _
    refine XS.aloadN X1.here hx rfl (hb hby own_d4_5) rfl rfl ?_
    show Steps p.tables e below (T1.setTop (mkF m 6 #[.val (.ref xthis), .val (.ref x1), .val (.int (0 : Int32))] [(.ref x1), (.ref xthis)])) _
    refine st2 _ ?_
    show Steps p.tables e below (T2.setTop (mkF m 9 #[.val (.ref xthis), .val (.ref x1), .val (.int (0 : Int32))] [])) _
    refine XS.aloadN X2.here hx rfl (hb hby own_d4_9) rfl rfl ?_
    show Steps p.tables e below (T2.setTop (mkF m 10 #[.val (.ref xthis), .val (.ref x1), .val (.int (0 : Int32))] [(.ref xthis)])) _
    refine XS.iloadN X2.here hx rfl (hb hby own_d4_10) rfl ?_
    show Steps p.tables e below (T2.setTop (mkF m 11 #[.val (.ref xthis), .val (.ref x1), .val (.int (0 : Int32))] [(.int (0 : Int32)), (.ref xthis)])) _
    refine st6 _ ?_
    show Steps p.tables e below (T6.setTop (mkF m 14 #[.val (.ref xthis), .val (.ref x1), .val (.int (0 : Int32))] [])) _
    exact X6.returnOut hx Bd.returns (hb hby own_d4_14) hr
  · show own_Q4 Z xthis x1 h0 n0 _ T6.heap _
    rw [e6]
    exact ⟨rfl, N6, K6, F8, F9, F7⟩
theorem own_pd0 : parseMethodDescriptor "(C)Z" = some ⟨[.char], some .boolean⟩ := by decide +kernel
theorem own_pd1 : parseMethodDescriptor "(C)[B" = some ⟨[.char], some (.array .byte)⟩ := by decide +kernel
theorem own_pd2 : parseMethodDescriptor "([BB)V" = some ⟨[(.array .byte), .byte], none⟩ := by decide +kernel
theorem own_d1_0 : decode jdk_42_method_139_code 0 = .ok (.getstatic 38, 3) := by decide +kernel
theorem own_d1_3 : decode jdk_42_method_139_code 3 = .ok (.ifCond .eq 23, 3) := by decide +kernel
theorem own_d1_6 : decode jdk_42_method_139_code 6 = .ok (.iload_n 0, 1) := by decide +kernel
theorem own_d1_7 : decode jdk_42_method_139_code 7 = .ok (.invokestatic 1015, 3) := by decide +kernel
theorem own_d1_10 : decode jdk_42_method_139_code 10 = .ok (.ifCond .eq 16, 3) := by decide +kernel
theorem own_d1_13 : decode jdk_42_method_139_code 13 = .ok (.new 10, 3) := by decide +kernel
theorem own_d1_16 : decode jdk_42_method_139_code 16 = .ok (.dup, 1) := by decide +kernel
theorem own_d1_17 : decode jdk_42_method_139_code 17 = .ok (.iload_n 0, 1) := by decide +kernel
theorem own_d1_18 : decode jdk_42_method_139_code 18 = .ok (.invokestatic 1018, 3) := by decide +kernel
theorem own_d1_21 : decode jdk_42_method_139_code 21 = .ok (.iconst 0, 1) := by decide +kernel
theorem own_d1_22 : decode jdk_42_method_139_code 22 = .ok (.invokespecial 209, 3) := by decide +kernel
theorem own_d1_25 : decode jdk_42_method_139_code 25 = .ok (.areturn, 1) := by decide +kernel
def own_Q1 (Z : State) (xc : Int32) (xcs : Int32) (h0 : Heap) (n0 : Nat) (v : Option Value) (h : Heap) (L : List Loc) : Prop := ∃ (xs : Addr) (xv : Addr) (xk : ClassId), v = some (.ref xs) ∧ Fr n0 L ∧ Keep h0 h [] ∧ h0.size ≤ xs ∧ xs < h.size ∧ h0.size ≤ xv ∧ xv < h.size ∧ Exa Z h xs "java/lang/String" ∧ Fld Z h xs "java/lang/String" "value" "[B" (.ref xv) ∧ Fld Z h xs "java/lang/String" "coder" "B" (.int (0 : Int32)) ∧ Arv Z h xv xk .byte (1 : Int32) [(.int ((xc.toInt8.toInt32).toInt8.toInt32))] (.int (0 : Int32))
theorem own_ef1 (m : MethodId) (xc : Int32) : entryFrame m #[(.int xc)] 1 = mkF m 0 #[.val (.int xc)] [] := by first | (simp [entryFrame, mkF, argsToLocals, Value.category]; done) | rfl
set_option maxRecDepth 65536 in
set_option maxHeartbeats 40000000 in
theorem own_rm1 (l : Launch) (Z : State) (a0 : Array Value) (hw : ∀ d ∈ tables_1, d.before a0 Z = true) (ws : List Jvm.Cond) (xc : Int32) (xcs : Int32) (h0 : Heap) (n0 : Nat) (Z0 : n0 ≤ h0.size) (S_CS : Sta Z h0 "java/lang/String" "COMPACT_STRINGS" "Z" (.int xcs)) (hcs : ¬ (xcs = (0 : Int32))) (hle : ¬ ((255 : Int32) < xc)) :
    MetFree l (⟨"java/lang/String", "valueOf", "(C)Ljava/lang/String;"⟩ : MethodName) (head1 (Jvm.Cond.code (⟨"java/lang/String", "valueOf", "(C)Ljava/lang/String;"⟩ : MethodName) jdk_42_method_139_code 1 (some (.object "java/lang/String")) :: ws) ({ frames := 2, cells := 2, slots := 5, locals := 27 } : Room)) (fun a U => a = #[(.int xc)] ∧ Z.Warmed39 U.vm ∧ U.heap = h0) (fun _ _ _ _ _ => True) (fun _ U o U' => ∃ v L, o = .returned v ∧ own_Q1 Z xc xcs h0 n0 v U'.heap L ∧ FrameEnd U o U' L ({ frames := 2, cells := 2, slots := 5, locals := 27 } : Room).cells ({ frames := 2, cells := 2, slots := 5, locals := 27 } : Room).slots) := by
  refine MetFree.of_bodySF (plainFor_of_name own_pn2) hisR ?_
  intro p e s m args below meth c s₁ Bd hml0 hP hK
  obtain ⟨rfl, hZ, hh⟩ := hP
  have hx := Bd.exec
  have hby := Bd.bytes
  have hml : c.maxLocals = 1 := hml0
  have hown : s.vm.findClass "java/lang/String" = some m.cls := findClass_of_methodNamed Bd.named
  have hnm := (name_of_methodNamed Bd.named Bd.method).1
  have X0 : Stand p l e ({ frames := 2, cells := 2, slots := 5, locals := 27 } : Room) s m #[(.int xc)] below meth c s₁ [] 0 0 := Stand.of_body Bd
  have e0 : s₁.heap = h0 := by rw [← hh, Bd.state]; rfl
  have N0 := Fr.nil n0
  have pre0 : ∀ t, Steps p.tables e below (s₁.setTop (mkF m 0 #[.val (.int xc)] [])) t → Steps p.tables e below (s₁.setTop (entryFrame m #[(.int xc)] 1)) t := fun t k => castTop (own_ef1 m xc) k
  have K0 : Keep h0 h0 [] := Keep.refl _ _
  obtain ⟨T1, X1, e1, st1⟩ := getS2 X0 hx hZ hown (host := "") (Or.inl (hw _ (List.mem_of_getElem? (i := 4) rfl))) Via.refl e0 S_CS (g := (mkF m 0 #[.val (.int xc)] [])) rfl (hb hby own_d1_0)
  obtain ⟨_, _, ⟨T2, L2, k2, n2⟩, -, X2, ⟨Lc2, hQ2, l2, y2, z2⟩, st2⟩ := Jvm.LawKit.callS X1 hx (y := (⟨"java/lang/StringLatin1", "canEncode", "(C)Z"⟩ : MethodName)) hown (mvT hZ (hw _ (List.mem_of_getElem? (i := 5) rfl))) (mvT hZ (hw _ (List.mem_of_getElem? (i := 6) rfl))) (mvT hZ (hw _ (List.mem_of_getElem? (i := 7) rfl))) (mvT hZ (hw _ (List.mem_of_getElem? (i := 8) rfl))) (by decide) (backOf (W := 0) (own_rm2 l Z a0 hw [] xc h0 n0 Z0 (hle)) hZ (hw _ (List.mem_of_getElem? (i := 8) rfl)) (hw _ (List.mem_of_getElem? (i := 7) rfl)) (by decide) (by decide)) (g := (mkF m 7 #[.val (.int xc)] [(.int xc)])) rfl (by rw [hml]; rfl) (argsL := [(.int xc)]) (rest := []) (lenOf own_pd0 rfl) rfl (by show 2 * 0 + _ ≤ _; exact Nat.le_of_eq rfl) (hb hby own_d1_7) (fun _ _ => ⟨rfl, e1, (by decide : 0 + 0 ≤ _), (by decide : 0 + 0 ≤ _)⟩)
  dsimp only [Pt.U, Pt.locs, Pt.cells, Pt.slots] at X2 l2 y2 z2 st2 hQ2
  subst l2 y2 z2
  obtain ⟨rfl, N2q, eh2⟩ := hQ2
  have N2 := Fr.app N0 N2q
  have hd3 : ¬ ((1 : Int32) = (0 : Int32)) := (by decide)
  obtain ⟨T4, h4, X4, e4, E4, A4, D4, -, st4⟩ := newO X2 hx hZ hown (hw _ (List.mem_of_getElem? (i := 9) rfl)) (hw _ (List.mem_of_getElem? (i := 10) rfl)) (hw _ (List.mem_of_getElem? (i := 2) rfl)) eh2 (g := (mkF m 13 #[.val (.int xc)] [])) rfl (hb hby own_d1_13) (by decide) (by decide)
  obtain ⟨b4, g4⟩ : ∃ z, z = h0.size := ⟨_, rfl⟩
  rw [← g4] at A4 D4 st4
  have g_b4 : n0 ≤ b4 := Nat.le_trans Z0 (Nat.le_of_eq g4.symm)
  have sz_b4 : h0.size ≤ b4 := Nat.le_trans K0.1 (Nat.le_of_eq g4.symm)
  have K4 : Keep h0 h4 [] := K0.ext E4
  have F5 : Sta Z h4 "java/lang/String" "COMPACT_STRINGS" "Z" (.int xcs) := S_CS.ext E4
  have Z4 : n0 ≤ h4.size := Nat.le_trans Z0 E4.1
  have F6 : Fld Z h4 b4 "java/lang/String" "value" "[B" .null := D4 (Or.inr (hw _ (List.mem_of_getElem? (i := 23) rfl))) (ty := (.array .byte)) (by decide)
  have F7 : Fld Z h4 b4 "java/lang/String" "coder" "B" (.int (0 : Int32)) := D4 (Or.inr (hw _ (List.mem_of_getElem? (i := 25) rfl))) (ty := .byte) (by decide)
  obtain ⟨_, _, ⟨T8, L8, k8, n8⟩, -, X8, ⟨Lc8, hQ8, l8, y8, z8⟩, st8⟩ := Jvm.LawKit.callS X4 hx (y := (⟨"java/lang/StringLatin1", "toBytes", "(C)[B"⟩ : MethodName)) hown (mvT hZ (hw _ (List.mem_of_getElem? (i := 11) rfl))) (mvT hZ (hw _ (List.mem_of_getElem? (i := 12) rfl))) (mvT hZ (hw _ (List.mem_of_getElem? (i := 7) rfl))) (mvT hZ (hw _ (List.mem_of_getElem? (i := 13) rfl))) (by decide) (backOf (W := 2) (own_rm3 l Z a0 hw [] xc h4 n0 Z4 ) hZ (hw _ (List.mem_of_getElem? (i := 13) rfl)) (hw _ (List.mem_of_getElem? (i := 7) rfl)) (by decide) (by decide)) (g := (mkF m 18 #[.val (.int xc)] [(.int xc), (.ref b4), (.ref b4)])) rfl (by rw [hml]; rfl) (argsL := [(.int xc)]) (rest := [(.ref b4), (.ref b4)]) (lenOf own_pd1 rfl) rfl (by show 2 * 0 + _ ≤ _; exact Nat.le_of_eq rfl) (hb hby own_d1_18) (fun _ _ => ⟨rfl, e4, (by decide : 1 + 1 ≤ _), (by decide : 4 + 1 ≤ _)⟩)
  dsimp only [Pt.U, Pt.locs, Pt.cells, Pt.slots] at X8 l8 y8 z8 st8 hQ8
  subst l8 y8 z8
  obtain ⟨b8xn, g8xk, rfl, N8q, K8q, sz0_b8xn, lt_b8xn, F9⟩ := hQ8
  have K8 := K8q
  have ne_b4_b8xn : b4 ≠ b8xn := Nat.ne_of_lt (Nat.lt_of_lt_of_le A4.lt sz0_b8xn)
  have g_b8xn : n0 ≤ b8xn := Nat.le_trans Z4 sz0_b8xn
  have sz_b8xn : h0.size ≤ b8xn := Nat.le_trans K4.1 sz0_b8xn
  have KK8 : Keep h0 T8.heap [] := K4.trans K8 all0
  have F10 : Sta Z T8.heap "java/lang/String" "COMPACT_STRINGS" "Z" (.int xcs) := S_CS.ext (own_ext KK8)
  have F11 : Fld Z T8.heap b4 "java/lang/String" "value" "[B" .null := F6.keep K8 nin0
  have F12 : Fld Z T8.heap b4 "java/lang/String" "coder" "B" (.int (0 : Int32)) := F7.keep K8 nin0
  have F13 : Exa Z T8.heap b4 "java/lang/String" := A4.keep K8
  have Z8 : n0 ≤ T8.heap.size := Nat.le_trans Z4 K8.1
  have N8 := Fr.app N2 N8q
  obtain ⟨_, _, ⟨T14, L14, k14, n14⟩, -, X14, ⟨Lc14, hQ14, l14, y14, z14⟩, st14⟩ := X8.specialBack hx (y := (⟨"java/lang/String", "<init>", "([BB)V"⟩ : MethodName)) rfl hown (mvT hZ (hw _ (List.mem_of_getElem? (i := 15) rfl))) (mvT hZ (hw _ (List.mem_of_getElem? (i := 16) rfl))) (mvT hZ (hw _ (List.mem_of_getElem? (i := 18) rfl))) (by decide) (backOf (W := 1) (own_rm4 l Z a0 hw [] b4 b8xn T8.heap n0 Z8 F13 F11 F12 g_b4) hZ (hw _ (List.mem_of_getElem? (i := 18) rfl)) (hw _ (List.mem_of_getElem? (i := 2) rfl)) (by decide) (by decide)) (g := (mkF m 22 #[.val (.int xc)] [(.int (0 : Int32)), (.ref b8xn), (.ref b4), (.ref b4)])) rfl (by rw [hml]; rfl) (Steps.refl _) (a := b4) (argsL := [(.ref b8xn), (.int (0 : Int32))]) (rest := [(.ref b4)]) (lenOf own_pd2 rfl) rfl (by show 2 * 0 + _ ≤ _; exact Nat.le_of_eq rfl) (hb hby own_d1_22) (fun _ _ => ⟨rfl, rfl, (by decide : 2 + 0 ≤ _), (by decide : 5 + 0 ≤ _)⟩)
  dsimp only [Pt.U, Pt.locs, Pt.cells, Pt.slots] at X14 l14 y14 z14 st14 hQ14
  subst l14 y14 z14
  obtain ⟨rfl, N14q, K14q, F15, F16, F17⟩ := hQ14
  have K14 := K14q
  have KK14 : Keep h0 T14.heap [] := KK8.trans K14 (allS (Or.inr sz_b4) all0)
  have F18 : Sta Z T14.heap "java/lang/String" "COMPACT_STRINGS" "Z" (.int xcs) := S_CS.ext (own_ext KK14)
  have F19 : Exa Z T14.heap b4 "java/lang/String" := F13.keep K14
  have F20 : Arv Z T14.heap b8xn g8xk .byte (1 : Int32) [(.int ((xc.toInt8.toInt32).toInt8.toInt32))] (.int (0 : Int32)) := F9.keep K14 (ninS (Ne.symm ne_b4_b8xn) nin0)
  have Z14 : n0 ≤ T14.heap.size := Nat.le_trans Z8 K14.1
  have N14 := Fr.app N8 N14q
  obtain ⟨fs, hr, hrun, hended, hW, hsame⟩ := X14.leave (v := some (.ref b4)) (fun h => by rw [Bd.returns] at h; cases h)
  refine ⟨_, _, pre0 _ ?_, hrun, hended, _, _, rfl, ?_, ⟨_, rfl⟩, hW, hsame.mono (by decide) (by decide)⟩
  · show Steps p.tables e below (s₁.setTop (mkF m 0 #[.val (.int xc)] [])) _
    refine st1 _ ?_
    show Steps p.tables e below (T1.setTop (mkF m 3 #[.val (.int xc)] [(.int xcs)])) _
    refine XS.ifNo X1.here hx rfl (hb hby own_d1_3) rfl ((if0 _ _).trans (feq hcs).1) ?_
    show Steps p.tables e below (T1.setTop (mkF m 6 #[.val (.int xc)] [])) _
    refine XS.iloadN X1.here hx rfl (hb hby own_d1_6) rfl ?_
    show Steps p.tables e below (T1.setTop (mkF m 7 #[.val (.int xc)] [(.int xc)])) _
    refine st2 _ ?_
    show Steps p.tables e below (T2.setTop (mkF m 10 #[.val (.int xc)] [(.int (1 : Int32))])) _
    refine XS.ifNo X2.here hx rfl (hb hby own_d1_10) rfl ((if0 _ _).trans (feq hd3).1) ?_
    show Steps p.tables e below (T2.setTop (mkF m 13 #[.val (.int xc)] [])) _
    refine st4 _ ?_
    show Steps p.tables e below (T4.setTop (mkF m 16 #[.val (.int xc)] [(.ref b4)])) _
    refine XS.dup X4.here hx rfl (hb hby own_d1_16) rfl rfl ?_
    show Steps p.tables e below (T4.setTop (mkF m 17 #[.val (.int xc)] [(.ref b4), (.ref b4)])) _
    refine XS.iloadN X4.here hx rfl (hb hby own_d1_17) rfl ?_
    show Steps p.tables e below (T4.setTop (mkF m 18 #[.val (.int xc)] [(.int xc), (.ref b4), (.ref b4)])) _
    refine st8 _ ?_
    show Steps p.tables e below (T8.setTop (mkF m 21 #[.val (.int xc)] [(.ref b8xn), (.ref b4), (.ref b4)])) _
    refine XS.iconst X8.here hx rfl (hb hby own_d1_21) ?_
    show Steps p.tables e below (T8.setTop (mkF m 22 #[.val (.int xc)] [(.int (0 : Int32)), (.ref b8xn), (.ref b4), (.ref b4)])) _
    refine st14.trans ?_
    show Steps p.tables e below (T14.setTop (mkF m 25 #[.val (.int xc)] [(.ref b4)])) _
    exact retA X14 hx Bd.returns rfl rfl rfl (hb hby own_d1_25) hr
  · show own_Q1 Z xc xcs h0 n0 _ T14.heap _
    exact ⟨b4, b8xn, g8xk, rfl, N14, KK14, sz_b4, F15.lt, sz_b8xn, F20.lt, F15, F16, F17, F20⟩
theorem own_d10_0 : decode jdk_43_method_13_code 0 = .ok (.aload_n 0, 1) := by decide +kernel
theorem own_d10_1 : decode jdk_43_method_13_code 1 = .ok (.arraylength, 1) := by decide +kernel
theorem own_d10_2 : decode jdk_43_method_13_code 2 = .ok (.aload_n 1, 1) := by decide +kernel
theorem own_d10_3 : decode jdk_43_method_13_code 3 = .ok (.arraylength, 1) := by decide +kernel
theorem own_d10_4 : decode jdk_43_method_13_code 4 = .ok (.if_icmp .ne 30, 3) := by decide +kernel
theorem own_d10_7 : decode jdk_43_method_13_code 7 = .ok (.iconst 0, 1) := by decide +kernel
theorem own_d10_8 : decode jdk_43_method_13_code 8 = .ok (.istore_n 2, 1) := by decide +kernel
theorem own_d10_9 : decode jdk_43_method_13_code 9 = .ok (.iload_n 2, 1) := by decide +kernel
theorem own_d10_10 : decode jdk_43_method_13_code 10 = .ok (.aload_n 0, 1) := by decide +kernel
theorem own_d10_11 : decode jdk_43_method_13_code 11 = .ok (.arraylength, 1) := by decide +kernel
theorem own_d10_12 : decode jdk_43_method_13_code 12 = .ok (.if_icmp .ge 20, 3) := by decide +kernel
theorem own_d10_15 : decode jdk_43_method_13_code 15 = .ok (.aload_n 0, 1) := by decide +kernel
theorem own_d10_16 : decode jdk_43_method_13_code 16 = .ok (.iload_n 2, 1) := by decide +kernel
theorem own_d10_17 : decode jdk_43_method_13_code 17 = .ok (.baload, 1) := by decide +kernel
theorem own_d10_18 : decode jdk_43_method_13_code 18 = .ok (.aload_n 1, 1) := by decide +kernel
theorem own_d10_19 : decode jdk_43_method_13_code 19 = .ok (.iload_n 2, 1) := by decide +kernel
theorem own_d10_20 : decode jdk_43_method_13_code 20 = .ok (.baload, 1) := by decide +kernel
theorem own_d10_21 : decode jdk_43_method_13_code 21 = .ok (.if_icmp .eq 5, 3) := by decide +kernel
theorem own_d10_24 : decode jdk_43_method_13_code 24 = .ok (.iconst 0, 1) := by decide +kernel
theorem own_d10_25 : decode jdk_43_method_13_code 25 = .ok (.ireturn, 1) := by decide +kernel
theorem own_d10_26 : decode jdk_43_method_13_code 26 = .ok (.iinc 2 1, 3) := by decide +kernel
theorem own_d10_29 : decode jdk_43_method_13_code 29 = .ok (.goto (-20), 3) := by decide +kernel
theorem own_d10_32 : decode jdk_43_method_13_code 32 = .ok (.iconst 1, 1) := by decide +kernel
theorem own_d10_33 : decode jdk_43_method_13_code 33 = .ok (.ireturn, 1) := by decide +kernel
def own_Q10 (Z : State) (xa : Addr) (xb : Addr) (ka : ClassId) (kb : ClassId) (za : Int32) (zb : Int32) (h0 : Heap) (n0 : Nat) (v : Option Value) (h : Heap) (L : List Loc) : Prop := v = some (.int (own_se za zb)) ∧ Fr n0 L ∧ h = h0
theorem own_ef10 (m : MethodId) (xa : Addr) (xb : Addr) : entryFrame m #[(.ref xa), (.ref xb)] 3 = mkF m 0 #[.val (.ref xa), .val (.ref xb), .unset] [] := by first | (simp [entryFrame, mkF, argsToLocals, Value.category]; done) | rfl
set_option maxRecDepth 65536 in
set_option maxHeartbeats 40000000 in
theorem own_rm10 (l : Launch) (Z : State) (a0 : Array Value) (hw : ∀ d ∈ tables_1, d.before a0 Z = true) (ws : List Jvm.Cond) (xa : Addr) (xb : Addr) (ka : ClassId) (kb : ClassId) (za : Int32) (zb : Int32) (h0 : Heap) (n0 : Nat) (Z0 : n0 ≤ h0.size) (A_xa : Arv Z h0 xa ka .byte (1 : Int32) [(.int za)] (.int (0 : Int32))) (A_xb : Arv Z h0 xb kb .byte (1 : Int32) [(.int zb)] (.int (0 : Int32))) :
    MetFree l (⟨"java/lang/StringLatin1", "equals", "([B[B)Z"⟩ : MethodName) (head1 (Jvm.Cond.code (⟨"java/lang/StringLatin1", "equals", "([B[B)Z"⟩ : MethodName) jdk_43_method_13_code 3 (some .boolean) :: ws) ({ frames := 0, cells := 0, slots := 0, locals := 0 } : Room)) (fun a U => a = #[(.ref xa), (.ref xb)] ∧ Z.Warmed39 U.vm ∧ U.heap = h0) (fun _ _ _ _ _ => True) (fun _ U o U' => ∃ v L, o = .returned v ∧ own_Q10 Z xa xb ka kb za zb h0 n0 v U'.heap L ∧ FrameEnd U o U' L ({ frames := 0, cells := 0, slots := 0, locals := 0 } : Room).cells ({ frames := 0, cells := 0, slots := 0, locals := 0 } : Room).slots) := by
  refine MetFree.of_bodySF (plainFor_of_name own_pn1) hisR ?_
  intro p e s m args below meth c s₁ Bd hml0 hP hK
  obtain ⟨rfl, hZ, hh⟩ := hP
  have hx := Bd.exec
  have hby := Bd.bytes
  have hml : c.maxLocals = 3 := hml0
  have hown : s.vm.findClass "java/lang/StringLatin1" = some m.cls := findClass_of_methodNamed Bd.named
  have hnm := (name_of_methodNamed Bd.named Bd.method).1
  have X0 : Stand p l e ({ frames := 0, cells := 0, slots := 0, locals := 0 } : Room) s m #[(.ref xa), (.ref xb)] below meth c s₁ [] 0 0 := Stand.of_body Bd
  have e0 : s₁.heap = h0 := by rw [← hh, Bd.state]; rfl
  have N0 := Fr.nil n0
  have pre0 : ∀ t, Steps p.tables e below (s₁.setTop (mkF m 0 #[.val (.ref xa), .val (.ref xb), .unset] [])) t → Steps p.tables e below (s₁.setTop (entryFrame m #[(.ref xa), (.ref xb)] 3)) t := fun t k => castTop (own_ef10 m xa xb) k
  obtain ⟨cl1, Ar1, q1, S1, M1, H1, G1⟩ := id A_xa
  obtain ⟨cl2, Ar2, q2, S2, M2, H2, G2⟩ := id A_xb
  obtain ⟨cl3, Ar3, q3, S3, M3, H3, G3⟩ := id A_xa
  have hd4 : (0 : Int32) < (1 : Int32) := (by decide)
  obtain ⟨cl5, Ar5, q5, S5, M5, H5, G5⟩ := id A_xa
  have in5 := inb_of S5 (j := (0 : Int32)) ⟨by decide, by decide⟩
  obtain ⟨cl6, Ar6, q6, S6, M6, H6, G6⟩ := id A_xb
  have in6 := inb_of S6 (j := (0 : Int32)) ⟨by decide, by decide⟩
  have pre7 : ∀ t, Steps p.tables e below (s₁.setTop (mkF m 21 #[.val (.ref xa), .val (.ref xb), .val (.int (0 : Int32))] [(.int zb), (.int za)])) t → Steps p.tables e below (s₁.setTop (entryFrame m #[(.ref xa), (.ref xb)] 3)) t := by
    intro t k
    refine pre0 _ ?_
    show Steps p.tables e below (s₁.setTop (mkF m 0 #[.val (.ref xa), .val (.ref xb), .unset] [])) _
    refine XS.aloadN X0.here hx rfl (hb hby own_d10_0) rfl rfl ?_
    show Steps p.tables e below (s₁.setTop (mkF m 1 #[.val (.ref xa), .val (.ref xb), .unset] [(.ref xa)])) _
    refine X0.arraylength hx (by rw [e0]; exact Ar1.1) (State.isArrayOf_alike hZ.alike Ar1.2.1) (g := (mkF m 1 #[.val (.ref xa), .val (.ref xb), .unset] [(.ref xa)])) rfl rfl (hb hby own_d10_1) _ ?_
    rw [len_of S1 M1]
    show Steps p.tables e below (s₁.setTop (mkF m 2 #[.val (.ref xa), .val (.ref xb), .unset] [(.int (1 : Int32))])) _
    refine XS.aloadN X0.here hx rfl (hb hby own_d10_2) rfl rfl ?_
    show Steps p.tables e below (s₁.setTop (mkF m 3 #[.val (.ref xa), .val (.ref xb), .unset] [(.ref xb), (.int (1 : Int32))])) _
    refine X0.arraylength hx (by rw [e0]; exact Ar2.1) (State.isArrayOf_alike hZ.alike Ar2.2.1) (g := (mkF m 3 #[.val (.ref xa), .val (.ref xb), .unset] [(.ref xb), (.int (1 : Int32))])) rfl rfl (hb hby own_d10_3) _ ?_
    rw [len_of S2 M2]
    show Steps p.tables e below (s₁.setTop (mkF m 4 #[.val (.ref xa), .val (.ref xb), .unset] [(.int (1 : Int32)), (.int (1 : Int32))])) _
    refine XS.icmpNo X0.here hx rfl (hb hby own_d10_4) rfl (teq rfl).2 ?_
    show Steps p.tables e below (s₁.setTop (mkF m 7 #[.val (.ref xa), .val (.ref xb), .unset] [])) _
    refine XS.iconst X0.here hx rfl (hb hby own_d10_7) ?_
    show Steps p.tables e below (s₁.setTop (mkF m 8 #[.val (.ref xa), .val (.ref xb), .unset] [(.int (0 : Int32))])) _
    refine XS.istoreN X0.here hx rfl (hb hby own_d10_8) rfl (l' := #[.val (.ref xa), .val (.ref xb), .val (.int (0 : Int32))]) rfl ?_
    show Steps p.tables e below (s₁.setTop (mkF m 9 #[.val (.ref xa), .val (.ref xb), .val (.int (0 : Int32))] [])) _
    refine XS.iloadN X0.here hx rfl (hb hby own_d10_9) rfl ?_
    show Steps p.tables e below (s₁.setTop (mkF m 10 #[.val (.ref xa), .val (.ref xb), .val (.int (0 : Int32))] [(.int (0 : Int32))])) _
    refine XS.aloadN X0.here hx rfl (hb hby own_d10_10) rfl rfl ?_
    show Steps p.tables e below (s₁.setTop (mkF m 11 #[.val (.ref xa), .val (.ref xb), .val (.int (0 : Int32))] [(.ref xa), (.int (0 : Int32))])) _
    refine X0.arraylength hx (by rw [e0]; exact Ar3.1) (State.isArrayOf_alike hZ.alike Ar3.2.1) (g := (mkF m 11 #[.val (.ref xa), .val (.ref xb), .val (.int (0 : Int32))] [(.ref xa), (.int (0 : Int32))])) rfl rfl (hb hby own_d10_11) _ ?_
    rw [len_of S3 M3]
    show Steps p.tables e below (s₁.setTop (mkF m 12 #[.val (.ref xa), .val (.ref xb), .val (.int (0 : Int32))] [(.int (1 : Int32)), (.int (0 : Int32))])) _
    refine XS.icmpNo X0.here hx rfl (hb hby own_d10_12) rfl (tlt hd4).2.1 ?_
    show Steps p.tables e below (s₁.setTop (mkF m 15 #[.val (.ref xa), .val (.ref xb), .val (.int (0 : Int32))] [])) _
    refine XS.aloadN X0.here hx rfl (hb hby own_d10_15) rfl rfl ?_
    show Steps p.tables e below (s₁.setTop (mkF m 16 #[.val (.ref xa), .val (.ref xb), .val (.int (0 : Int32))] [(.ref xa)])) _
    refine XS.iloadN X0.here hx rfl (hb hby own_d10_16) rfl ?_
    show Steps p.tables e below (s₁.setTop (mkF m 17 #[.val (.ref xa), .val (.ref xb), .val (.int (0 : Int32))] [(.int (0 : Int32)), (.ref xa)])) _
    refine X0.baloadBytes hx (j := (0 : Int32)) (v := (.int za)) (by rw [e0]; exact Ar5.1) (State.isArrayOf_alike hZ.alike Ar5.2.1) Ar5.2.2 in5 (H5.at in5 rfl) (g := (mkF m 17 #[.val (.ref xa), .val (.ref xb), .val (.int (0 : Int32))] [(.int (0 : Int32)), (.ref xa)])) rfl rfl (hb hby own_d10_17) _ ?_
    show Steps p.tables e below (s₁.setTop (mkF m 18 #[.val (.ref xa), .val (.ref xb), .val (.int (0 : Int32))] [(.int za)])) _
    refine XS.aloadN X0.here hx rfl (hb hby own_d10_18) rfl rfl ?_
    show Steps p.tables e below (s₁.setTop (mkF m 19 #[.val (.ref xa), .val (.ref xb), .val (.int (0 : Int32))] [(.ref xb), (.int za)])) _
    refine XS.iloadN X0.here hx rfl (hb hby own_d10_19) rfl ?_
    show Steps p.tables e below (s₁.setTop (mkF m 20 #[.val (.ref xa), .val (.ref xb), .val (.int (0 : Int32))] [(.int (0 : Int32)), (.ref xb), (.int za)])) _
    refine X0.baloadBytes hx (j := (0 : Int32)) (v := (.int zb)) (by rw [e0]; exact Ar6.1) (State.isArrayOf_alike hZ.alike Ar6.2.1) Ar6.2.2 in6 (H6.at in6 rfl) (g := (mkF m 20 #[.val (.ref xa), .val (.ref xb), .val (.int (0 : Int32))] [(.int (0 : Int32)), (.ref xb), (.int za)])) rfl rfl (hb hby own_d10_20) _ ?_
    exact k
  by_cases hc21 : za = zb
  · obtain ⟨cl8, Ar8, q8, S8, M8, H8, G8⟩ := id A_xa
    have hd9 : ¬ ((1 : Int32) < (1 : Int32)) := (by decide)
    obtain ⟨fs, hr, hrun, hended, hW, hsame⟩ := X0.leave (v := some (.int (1 : Int32))) (fun h => by rw [Bd.returns] at h; cases h)
    have ev10 : (own_se za zb) = (1 : Int32) := by
      simp [own_se, hc21]
    refine ⟨_, _, pre7 _ ?_, hrun, hended, _, _, rfl, ?_, ⟨_, rfl⟩, hW, hsame.mono (by decide) (by decide)⟩
    · show Steps p.tables e below (s₁.setTop (mkF m 21 #[.val (.ref xa), .val (.ref xb), .val (.int (0 : Int32))] [(.int zb), (.int za)])) _
      refine XS.icmpYes X0.here hx rfl (pc0 := 21) (pc' := 26) rfl (hb hby own_d10_21) rfl (teq hc21).1 (by decide) (by decide) ?_
      show Steps p.tables e below (s₁.setTop (mkF m 26 #[.val (.ref xa), .val (.ref xb), .val (.int (0 : Int32))] [])) _
      refine XS.iinc X0.here hx rfl (hb hby own_d10_26) rfl (l' := #[.val (.ref xa), .val (.ref xb), .val (.int (1 : Int32))]) rfl ?_
      show Steps p.tables e below (s₁.setTop (mkF m 29 #[.val (.ref xa), .val (.ref xb), .val (.int (1 : Int32))] [])) _
      refine XS.goto X0.here hx rfl (pc0 := 29) (pc' := 9) rfl (hb hby own_d10_29) (by decide) (by decide) ?_
      show Steps p.tables e below (s₁.setTop (mkF m 9 #[.val (.ref xa), .val (.ref xb), .val (.int (1 : Int32))] [])) _
      refine XS.iloadN X0.here hx rfl (hb hby own_d10_9) rfl ?_
      show Steps p.tables e below (s₁.setTop (mkF m 10 #[.val (.ref xa), .val (.ref xb), .val (.int (1 : Int32))] [(.int (1 : Int32))])) _
      refine XS.aloadN X0.here hx rfl (hb hby own_d10_10) rfl rfl ?_
      show Steps p.tables e below (s₁.setTop (mkF m 11 #[.val (.ref xa), .val (.ref xb), .val (.int (1 : Int32))] [(.ref xa), (.int (1 : Int32))])) _
      refine X0.arraylength hx (by rw [e0]; exact Ar8.1) (State.isArrayOf_alike hZ.alike Ar8.2.1) (g := (mkF m 11 #[.val (.ref xa), .val (.ref xb), .val (.int (1 : Int32))] [(.ref xa), (.int (1 : Int32))])) rfl rfl (hb hby own_d10_11) _ ?_
      rw [len_of S8 M8]
      show Steps p.tables e below (s₁.setTop (mkF m 12 #[.val (.ref xa), .val (.ref xb), .val (.int (1 : Int32))] [(.int (1 : Int32)), (.int (1 : Int32))])) _
      refine XS.icmpYes X0.here hx rfl (pc0 := 12) (pc' := 32) rfl (hb hby own_d10_12) rfl (flt hd9).2.1 (by decide) (by decide) ?_
      show Steps p.tables e below (s₁.setTop (mkF m 32 #[.val (.ref xa), .val (.ref xb), .val (.int (1 : Int32))] [])) _
      refine XS.iconst X0.here hx rfl (hb hby own_d10_32) ?_
      show Steps p.tables e below (s₁.setTop (mkF m 33 #[.val (.ref xa), .val (.ref xb), .val (.int (1 : Int32))] [(.int (1 : Int32))])) _
      exact retN X0 hx (t := .boolean) Bd.returns (by simp) (hb hby own_d10_33) hr
    · show own_Q10 Z xa xb ka kb za zb h0 n0 _ s₁.heap _
      rw [e0]
      exact ⟨(by rw [ev10]), N0, rfl⟩
  · obtain ⟨fs, hr, hrun, hended, hW, hsame⟩ := X0.leave (v := some (.int (0 : Int32))) (fun h => by rw [Bd.returns] at h; cases h)
    have ev11 : (own_se za zb) = (0 : Int32) := by
      simp [own_se, hc21]
    refine ⟨_, _, pre7 _ ?_, hrun, hended, _, _, rfl, ?_, ⟨_, rfl⟩, hW, hsame.mono (by decide) (by decide)⟩
    · show Steps p.tables e below (s₁.setTop (mkF m 21 #[.val (.ref xa), .val (.ref xb), .val (.int (0 : Int32))] [(.int zb), (.int za)])) _
      refine XS.icmpNo X0.here hx rfl (hb hby own_d10_21) rfl (feq hc21).1 ?_
      show Steps p.tables e below (s₁.setTop (mkF m 24 #[.val (.ref xa), .val (.ref xb), .val (.int (0 : Int32))] [])) _
      refine XS.iconst X0.here hx rfl (hb hby own_d10_24) ?_
      show Steps p.tables e below (s₁.setTop (mkF m 25 #[.val (.ref xa), .val (.ref xb), .val (.int (0 : Int32))] [(.int (0 : Int32))])) _
      exact retN X0 hx (t := .boolean) Bd.returns (by simp) (hb hby own_d10_25) hr
    · show own_Q10 Z xa xb ka kb za zb h0 n0 _ s₁.heap _
      rw [e0]
      exact ⟨(by rw [ev11]), N0, rfl⟩
theorem own_pd3 : parseMethodDescriptor "([B[B)Z" = some ⟨[(.array .byte), (.array .byte)], some .boolean⟩ := by decide +kernel
theorem own_d9_0 : decode jdk_42_method_66_code 0 = .ok (.aload_n 0, 1) := by decide +kernel
theorem own_d9_1 : decode jdk_42_method_66_code 1 = .ok (.aload_n 1, 1) := by decide +kernel
theorem own_d9_2 : decode jdk_42_method_66_code 2 = .ok (.if_acmp .ne 5, 3) := by decide +kernel
theorem own_d9_7 : decode jdk_42_method_66_code 7 = .ok (.aload_n 1, 1) := by decide +kernel
theorem own_d9_8 : decode jdk_42_method_66_code 8 = .ok (.instanceof 10, 3) := by decide +kernel
theorem own_d9_11 : decode jdk_42_method_66_code 11 = .ok (.ifCond .eq 43, 3) := by decide +kernel
theorem own_d9_14 : decode jdk_42_method_66_code 14 = .ok (.aload_n 1, 1) := by decide +kernel
theorem own_d9_15 : decode jdk_42_method_66_code 15 = .ok (.checkcast 10, 3) := by decide +kernel
theorem own_d9_18 : decode jdk_42_method_66_code 18 = .ok (.astore_n 2, 1) := by decide +kernel
theorem own_d9_19 : decode jdk_42_method_66_code 19 = .ok (.getstatic 38, 3) := by decide +kernel
theorem own_d9_22 : decode jdk_42_method_66_code 22 = .ok (.ifCond .eq 14, 3) := by decide +kernel
theorem own_d9_25 : decode jdk_42_method_66_code 25 = .ok (.aload_n 0, 1) := by decide +kernel
theorem own_d9_26 : decode jdk_42_method_66_code 26 = .ok (.getfield 15, 3) := by decide +kernel
theorem own_d9_29 : decode jdk_42_method_66_code 29 = .ok (.aload_n 2, 1) := by decide +kernel
theorem own_d9_30 : decode jdk_42_method_66_code 30 = .ok (.getfield 15, 3) := by decide +kernel
theorem own_d9_33 : decode jdk_42_method_66_code 33 = .ok (.if_icmp .ne 21, 3) := by decide +kernel
theorem own_d9_36 : decode jdk_42_method_66_code 36 = .ok (.aload_n 0, 1) := by decide +kernel
theorem own_d9_37 : decode jdk_42_method_66_code 37 = .ok (.getfield 9, 3) := by decide +kernel
theorem own_d9_40 : decode jdk_42_method_66_code 40 = .ok (.aload_n 2, 1) := by decide +kernel
theorem own_d9_41 : decode jdk_42_method_66_code 41 = .ok (.getfield 9, 3) := by decide +kernel
theorem own_d9_44 : decode jdk_42_method_66_code 44 = .ok (.invokestatic 541, 3) := by decide +kernel
theorem own_d9_47 : decode jdk_42_method_66_code 47 = .ok (.ifCond .eq 7, 3) := by decide +kernel
theorem own_d9_50 : decode jdk_42_method_66_code 50 = .ok (.iconst 1, 1) := by decide +kernel
theorem own_d9_51 : decode jdk_42_method_66_code 51 = .ok (.goto 4, 3) := by decide +kernel
theorem own_d9_54 : decode jdk_42_method_66_code 54 = .ok (.iconst 0, 1) := by decide +kernel
theorem own_d9_55 : decode jdk_42_method_66_code 55 = .ok (.ireturn, 1) := by decide +kernel
def own_Q9 (Z : State) (xa : Addr) (xb : Addr) (xcs : Int32) (va : Addr) (ka : ClassId) (za : Int32) (vb : Addr) (kb : ClassId) (zb : Int32) (h0 : Heap) (n0 : Nat) (v : Option Value) (h : Heap) (L : List Loc) : Prop := v = some (.int (own_se za zb)) ∧ Fr n0 L ∧ h = h0
theorem own_ef9 (m : MethodId) (xa : Addr) (xb : Addr) : entryFrame m #[(.ref xa), (.ref xb)] 3 = mkF m 0 #[.val (.ref xa), .val (.ref xb), .unset] [] := by first | (simp [entryFrame, mkF, argsToLocals, Value.category]; done) | rfl
set_option maxRecDepth 65536 in
set_option maxHeartbeats 40000000 in
theorem own_rm9 (l : Launch) (Z : State) (a0 : Array Value) (hw : ∀ d ∈ tables_1, d.before a0 Z = true) (ws : List Jvm.Cond) (xa : Addr) (xb : Addr) (xcs : Int32) (va : Addr) (ka : ClassId) (za : Int32) (vb : Addr) (kb : ClassId) (zb : Int32) (h0 : Heap) (n0 : Nat) (Z0 : n0 ≤ h0.size) (S_CS : Sta Z h0 "java/lang/String" "COMPACT_STRINGS" "Z" (.int xcs)) (E_xa : Exa Z h0 xa "java/lang/String") (F_value_xa : Fld Z h0 xa "java/lang/String" "value" "[B" (.ref va)) (F_coder_xa : Fld Z h0 xa "java/lang/String" "coder" "B" (.int (0 : Int32))) (A_va : Arv Z h0 va ka .byte (1 : Int32) [(.int za)] (.int (0 : Int32))) (E_xb : Exa Z h0 xb "java/lang/String") (F_value_xb : Fld Z h0 xb "java/lang/String" "value" "[B" (.ref vb)) (F_coder_xb : Fld Z h0 xb "java/lang/String" "coder" "B" (.int (0 : Int32))) (A_vb : Arv Z h0 vb kb .byte (1 : Int32) [(.int zb)] (.int (0 : Int32))) (hcs : ¬ (xcs = (0 : Int32))) (hne : xa ≠ xb) :
    MetFree l (⟨"java/lang/String", "equals", "(Ljava/lang/Object;)Z"⟩ : MethodName) (head1 (Jvm.Cond.code (⟨"java/lang/String", "equals", "(Ljava/lang/Object;)Z"⟩ : MethodName) jdk_42_method_66_code 3 (some .boolean) :: ws) ({ frames := 1, cells := 0, slots := 0, locals := 14 } : Room)) (fun a U => a = #[(.ref xa), (.ref xb)] ∧ Z.Warmed39 U.vm ∧ U.heap = h0) (fun _ _ _ _ _ => True) (fun _ U o U' => ∃ v L, o = .returned v ∧ own_Q9 Z xa xb xcs va ka za vb kb zb h0 n0 v U'.heap L ∧ FrameEnd U o U' L ({ frames := 1, cells := 0, slots := 0, locals := 14 } : Room).cells ({ frames := 1, cells := 0, slots := 0, locals := 14 } : Room).slots) := by
  refine MetFree.of_bodySF (plainFor_of_name own_pn2) hisR ?_
  intro p e s m args below meth c s₁ Bd hml0 hP hK
  obtain ⟨rfl, hZ, hh⟩ := hP
  have hx := Bd.exec
  have hby := Bd.bytes
  have hml : c.maxLocals = 3 := hml0
  have hown : s.vm.findClass "java/lang/String" = some m.cls := findClass_of_methodNamed Bd.named
  have hnm := (name_of_methodNamed Bd.named Bd.method).1
  have X0 : Stand p l e ({ frames := 1, cells := 0, slots := 0, locals := 14 } : Room) s m #[(.ref xa), (.ref xb)] below meth c s₁ [] 0 0 := Stand.of_body Bd
  have e0 : s₁.heap = h0 := by rw [← hh, Bd.state]; rfl
  have N0 := Fr.nil n0
  have pre0 : ∀ t, Steps p.tables e below (s₁.setTop (mkF m 0 #[.val (.ref xa), .val (.ref xb), .unset] [])) t → Steps p.tables e below (s₁.setTop (entryFrame m #[(.ref xa), (.ref xb)] 3)) t := fun t k => castTop (own_ef9 m xa xb) k
  obtain ⟨T1, X1, e1, st1⟩ := instY X0 hx hZ hown (hw _ (List.mem_of_getElem? (i := 9) rfl)) e0 (Ins.self E_xb) (g := (mkF m 8 #[.val (.ref xa), .val (.ref xb), .unset] [(.ref xb)])) rfl rfl (hb hby own_d9_8)
  have hd2 : ¬ ((1 : Int32) = (0 : Int32)) := (by decide)
  obtain ⟨T3, X3, e3, st3⟩ := castY X1 hx hZ hown (hw _ (List.mem_of_getElem? (i := 9) rfl)) e1 (Ins.self E_xb) (g := (mkF m 15 #[.val (.ref xa), .val (.ref xb), .unset] [(.ref xb)])) rfl rfl (hb hby own_d9_15)
  obtain ⟨T4, X4, e4, st4⟩ := getS2 X3 hx hZ hown (host := "") (Or.inl (hw _ (List.mem_of_getElem? (i := 4) rfl))) Via.refl e3 S_CS (g := (mkF m 19 #[.val (.ref xa), .val (.ref xb), .val (.ref xb)] [])) rfl (hb hby own_d9_19)
  obtain ⟨T5, X5, e5, st5⟩ := getF X4 hx hZ hown (host := "") (Or.inl (hw _ (List.mem_of_getElem? (i := 24) rfl))) Via.refl e4 F_coder_xa (g := (mkF m 26 #[.val (.ref xa), .val (.ref xb), .val (.ref xb)] [(.ref xa)])) rfl rfl (hb hby own_d9_26)
  obtain ⟨T6, X6, e6, st6⟩ := getF X5 hx hZ hown (host := "") (Or.inl (hw _ (List.mem_of_getElem? (i := 24) rfl))) Via.refl e5 F_coder_xb (g := (mkF m 30 #[.val (.ref xa), .val (.ref xb), .val (.ref xb)] [(.ref xb), (.int (0 : Int32))])) rfl rfl (hb hby own_d9_30)
  obtain ⟨T7, X7, e7, st7⟩ := getF X6 hx hZ hown (host := "") (Or.inl (hw _ (List.mem_of_getElem? (i := 22) rfl))) Via.refl e6 F_value_xa (g := (mkF m 37 #[.val (.ref xa), .val (.ref xb), .val (.ref xb)] [(.ref xa)])) rfl rfl (hb hby own_d9_37)
  obtain ⟨T8, X8, e8, st8⟩ := getF X7 hx hZ hown (host := "") (Or.inl (hw _ (List.mem_of_getElem? (i := 22) rfl))) Via.refl e7 F_value_xb (g := (mkF m 41 #[.val (.ref xa), .val (.ref xb), .val (.ref xb)] [(.ref xb), (.ref va)])) rfl rfl (hb hby own_d9_41)
  obtain ⟨_, _, ⟨T9, L9, k9, n9⟩, -, X9, ⟨Lc9, hQ9, l9, y9, z9⟩, st9⟩ := Jvm.LawKit.callS X8 hx (y := (⟨"java/lang/StringLatin1", "equals", "([B[B)Z"⟩ : MethodName)) hown (mvT hZ (hw _ (List.mem_of_getElem? (i := 54) rfl))) (mvT hZ (hw _ (List.mem_of_getElem? (i := 55) rfl))) (mvT hZ (hw _ (List.mem_of_getElem? (i := 7) rfl))) (mvT hZ (hw _ (List.mem_of_getElem? (i := 56) rfl))) (by decide) (backOf (W := 0) (own_rm10 l Z a0 hw [] va vb ka kb za zb h0 n0 Z0 A_va A_vb) hZ (hw _ (List.mem_of_getElem? (i := 56) rfl)) (hw _ (List.mem_of_getElem? (i := 7) rfl)) (by decide) (by decide)) (g := (mkF m 44 #[.val (.ref xa), .val (.ref xb), .val (.ref xb)] [(.ref vb), (.ref va)])) rfl (by rw [hml]; rfl) (argsL := [(.ref va), (.ref vb)]) (rest := []) (lenOf own_pd3 rfl) rfl (by show 2 * 0 + _ ≤ _; exact Nat.le_of_eq rfl) (hb hby own_d9_44) (fun _ _ => ⟨rfl, e8, (by decide : 0 + 0 ≤ _), (by decide : 0 + 0 ≤ _)⟩)
  dsimp only [Pt.U, Pt.locs, Pt.cells, Pt.slots] at X9 l9 y9 z9 st9 hQ9
  subst l9 y9 z9
  obtain ⟨rfl, N9q, eh9⟩ := hQ9
  have N9 := Fr.app N0 N9q
  have pre10 : ∀ t, Steps p.tables e below (T9.setTop (mkF m 47 #[.val (.ref xa), .val (.ref xb), .val (.ref xb)] [(.int (own_se za zb))])) t → Steps p.tables e below (s₁.setTop (entryFrame m #[(.ref xa), (.ref xb)] 3)) t := by
    intro t k
    refine pre0 _ ?_
    show Steps p.tables e below (s₁.setTop (mkF m 0 #[.val (.ref xa), .val (.ref xb), .unset] [])) _
    refine XS.aloadN X0.here hx rfl (hb hby own_d9_0) rfl rfl ?_
    show Steps p.tables e below (s₁.setTop (mkF m 1 #[.val (.ref xa), .val (.ref xb), .unset] [(.ref xa)])) _
    refine XS.aloadN X0.here hx rfl (hb hby own_d9_1) rfl rfl ?_
    show Steps p.tables e below (s₁.setTop (mkF m 2 #[.val (.ref xa), .val (.ref xb), .unset] [(.ref xb), (.ref xa)])) _
    refine Jvm.RoadKit.acmp (g := (mkF m 2 #[.val (.ref xa), .val (.ref xb), .unset] [(.ref xb), (.ref xa)])) X0 hx rfl rfl rfl (pc0 := 2) (pc' := 7) (same := false) rfl (hb hby own_d9_2) rfl (decide_eq_false fun q => hne (Value.ref.inj q)) (by decide) (by decide) ?_
    show Steps p.tables e below (s₁.setTop (mkF m 7 #[.val (.ref xa), .val (.ref xb), .unset] [])) _
    refine XS.aloadN X0.here hx rfl (hb hby own_d9_7) rfl rfl ?_
    show Steps p.tables e below (s₁.setTop (mkF m 8 #[.val (.ref xa), .val (.ref xb), .unset] [(.ref xb)])) _
    refine st1 _ ?_
    show Steps p.tables e below (T1.setTop (mkF m 11 #[.val (.ref xa), .val (.ref xb), .unset] [(.int (1 : Int32))])) _
    refine XS.ifNo X1.here hx rfl (hb hby own_d9_11) rfl ((if0 _ _).trans (feq hd2).1) ?_
    show Steps p.tables e below (T1.setTop (mkF m 14 #[.val (.ref xa), .val (.ref xb), .unset] [])) _
    refine XS.aloadN X1.here hx rfl (hb hby own_d9_14) rfl rfl ?_
    show Steps p.tables e below (T1.setTop (mkF m 15 #[.val (.ref xa), .val (.ref xb), .unset] [(.ref xb)])) _
    refine st3 _ ?_
    show Steps p.tables e below (T3.setTop (mkF m 18 #[.val (.ref xa), .val (.ref xb), .unset] [(.ref xb)])) _
    refine XS.astoreN X3.here hx rfl (hb hby own_d9_18) rfl rfl (l' := #[.val (.ref xa), .val (.ref xb), .val (.ref xb)]) rfl ?_
    show Steps p.tables e below (T3.setTop (mkF m 19 #[.val (.ref xa), .val (.ref xb), .val (.ref xb)] [])) _
    refine st4 _ ?_
    show Steps p.tables e below (T4.setTop (mkF m 22 #[.val (.ref xa), .val (.ref xb), .val (.ref xb)] [(.int xcs)])) _
    refine XS.ifNo X4.here hx rfl (hb hby own_d9_22) rfl ((if0 _ _).trans (feq hcs).1) ?_
    show Steps p.tables e below (T4.setTop (mkF m 25 #[.val (.ref xa), .val (.ref xb), .val (.ref xb)] [])) _
    refine XS.aloadN X4.here hx rfl (hb hby own_d9_25) rfl rfl ?_
    show Steps p.tables e below (T4.setTop (mkF m 26 #[.val (.ref xa), .val (.ref xb), .val (.ref xb)] [(.ref xa)])) _
    refine st5 _ ?_
    show Steps p.tables e below (T5.setTop (mkF m 29 #[.val (.ref xa), .val (.ref xb), .val (.ref xb)] [(.int (0 : Int32))])) _
    refine XS.aloadN X5.here hx rfl (hb hby own_d9_29) rfl rfl ?_
    show Steps p.tables e below (T5.setTop (mkF m 30 #[.val (.ref xa), .val (.ref xb), .val (.ref xb)] [(.ref xb), (.int (0 : Int32))])) _
    refine st6 _ ?_
    show Steps p.tables e below (T6.setTop (mkF m 33 #[.val (.ref xa), .val (.ref xb), .val (.ref xb)] [(.int (0 : Int32)), (.int (0 : Int32))])) _
    refine XS.icmpNo X6.here hx rfl (hb hby own_d9_33) rfl (teq rfl).2 ?_
    show Steps p.tables e below (T6.setTop (mkF m 36 #[.val (.ref xa), .val (.ref xb), .val (.ref xb)] [])) _
    refine XS.aloadN X6.here hx rfl (hb hby own_d9_36) rfl rfl ?_
    show Steps p.tables e below (T6.setTop (mkF m 37 #[.val (.ref xa), .val (.ref xb), .val (.ref xb)] [(.ref xa)])) _
    refine st7 _ ?_
    show Steps p.tables e below (T7.setTop (mkF m 40 #[.val (.ref xa), .val (.ref xb), .val (.ref xb)] [(.ref va)])) _
    refine XS.aloadN X7.here hx rfl (hb hby own_d9_40) rfl rfl ?_
    show Steps p.tables e below (T7.setTop (mkF m 41 #[.val (.ref xa), .val (.ref xb), .val (.ref xb)] [(.ref xb), (.ref va)])) _
    refine st8 _ ?_
    show Steps p.tables e below (T8.setTop (mkF m 44 #[.val (.ref xa), .val (.ref xb), .val (.ref xb)] [(.ref vb), (.ref va)])) _
    refine st9 _ ?_
    exact k
  by_cases hc47 : (own_se za zb) = (0 : Int32)
  · obtain ⟨fs, hr, hrun, hended, hW, hsame⟩ := X9.leave (v := some (.int (0 : Int32))) (fun h => by rw [Bd.returns] at h; cases h)
    have ev11 : (own_se za zb) = (0 : Int32) := by
      exact hc47
    refine ⟨_, _, pre10 _ ?_, hrun, hended, _, _, rfl, ?_, ⟨_, rfl⟩, hW, hsame.mono (by decide) (by decide)⟩
    · show Steps p.tables e below (T9.setTop (mkF m 47 #[.val (.ref xa), .val (.ref xb), .val (.ref xb)] [(.int (own_se za zb))])) _
      refine XS.ifYes X9.here hx rfl (pc0 := 47) (pc' := 54) rfl (hb hby own_d9_47) rfl ((if0 _ _).trans (teq hc47).1) (by decide) (by decide) ?_
      show Steps p.tables e below (T9.setTop (mkF m 54 #[.val (.ref xa), .val (.ref xb), .val (.ref xb)] [])) _
      refine XS.iconst X9.here hx rfl (hb hby own_d9_54) ?_
      show Steps p.tables e below (T9.setTop (mkF m 55 #[.val (.ref xa), .val (.ref xb), .val (.ref xb)] [(.int (0 : Int32))])) _
      exact retN X9 hx (t := .boolean) Bd.returns (by simp) (hb hby own_d9_55) hr
    · show own_Q9 Z xa xb xcs va ka za vb kb zb h0 n0 _ T9.heap _
      rw [eh9]
      exact ⟨(by rw [ev11]), N9, rfl⟩
  · obtain ⟨fs, hr, hrun, hended, hW, hsame⟩ := X9.leave (v := some (.int (1 : Int32))) (fun h => by rw [Bd.returns] at h; cases h)
    have ev12 : (own_se za zb) = (1 : Int32) := by
      exact own_se1 hc47
    refine ⟨_, _, pre10 _ ?_, hrun, hended, _, _, rfl, ?_, ⟨_, rfl⟩, hW, hsame.mono (by decide) (by decide)⟩
    · show Steps p.tables e below (T9.setTop (mkF m 47 #[.val (.ref xa), .val (.ref xb), .val (.ref xb)] [(.int (own_se za zb))])) _
      refine XS.ifNo X9.here hx rfl (hb hby own_d9_47) rfl ((if0 _ _).trans (feq hc47).1) ?_
      show Steps p.tables e below (T9.setTop (mkF m 50 #[.val (.ref xa), .val (.ref xb), .val (.ref xb)] [])) _
      refine XS.iconst X9.here hx rfl (hb hby own_d9_50) ?_
      show Steps p.tables e below (T9.setTop (mkF m 51 #[.val (.ref xa), .val (.ref xb), .val (.ref xb)] [(.int (1 : Int32))])) _
      refine XS.goto X9.here hx rfl (pc0 := 51) (pc' := 55) rfl (hb hby own_d9_51) (by decide) (by decide) ?_
      show Steps p.tables e below (T9.setTop (mkF m 55 #[.val (.ref xa), .val (.ref xb), .val (.ref xb)] [(.int (1 : Int32))])) _
      exact retN X9 hx (t := .boolean) Bd.returns (by simp) (hb hby own_d9_55) hr
    · show own_Q9 Z xa xb xcs va ka za vb kb zb h0 n0 _ T9.heap _
      rw [eh9]
      exact ⟨(by rw [ev12]), N9, rfl⟩
theorem own_pn3 : plainName "com/example/zhengzi/zhengzi/CorrectionScore" = true := by first | (simp [plainName, overriddenIn]; done) | decide +kernel
theorem own_pd4 : parseMethodDescriptor "()V" = some ⟨[], none⟩ := by decide +kernel
theorem own_d6_0 : decode prog_12_method_1_code 0 = .ok (.aload_n 0, 1) := by decide +kernel
theorem own_d6_1 : decode prog_12_method_1_code 1 = .ok (.invokespecial 1, 3) := by decide +kernel
theorem own_d6_4 : decode prog_12_method_1_code 4 = .ok (.aload_n 0, 1) := by decide +kernel
theorem own_d6_5 : decode prog_12_method_1_code 5 = .ok (.lload_n 1, 1) := by decide +kernel
theorem own_d6_6 : decode prog_12_method_1_code 6 = .ok (.putfield 7, 3) := by decide +kernel
theorem own_d6_9 : decode prog_12_method_1_code 9 = .ok (.aload_n 0, 1) := by decide +kernel
theorem own_d6_10 : decode prog_12_method_1_code 10 = .ok (.lload_n 3, 1) := by decide +kernel
theorem own_d6_11 : decode prog_12_method_1_code 11 = .ok (.putfield 13, 3) := by decide +kernel
theorem own_d6_14 : decode prog_12_method_1_code 14 = .ok (.aload_n 0, 1) := by decide +kernel
theorem own_d6_15 : decode prog_12_method_1_code 15 = .ok (.lload 5, 2) := by decide +kernel
theorem own_d6_17 : decode prog_12_method_1_code 17 = .ok (.putfield 16, 3) := by decide +kernel
theorem own_d6_20 : decode prog_12_method_1_code 20 = .ok (.aload_n 0, 1) := by decide +kernel
theorem own_d6_21 : decode prog_12_method_1_code 21 = .ok (.lload 7, 2) := by decide +kernel
theorem own_d6_23 : decode prog_12_method_1_code 23 = .ok (.putfield 19, 3) := by decide +kernel
theorem own_d6_26 : decode prog_12_method_1_code 26 = .ok (.return_, 1) := by decide +kernel
def own_Q6 (Z : State) (xthis : Addr) (x0 : Int64) (x1 : Int64) (x2 : Int64) (x3 : Int64) (h0 : Heap) (n0 : Nat) (v : Option Value) (h : Heap) (L : List Loc) : Prop := v = none ∧ Fr n0 L ∧ Keep h0 h [xthis] ∧ Exa Z h xthis "com/example/zhengzi/zhengzi/CorrectionScore" ∧ Fld Z h xthis "com/example/zhengzi/zhengzi/CorrectionScore" "truePositives" "J" (.long x0) ∧ Fld Z h xthis "com/example/zhengzi/zhengzi/CorrectionScore" "falsePositives" "J" (.long x1) ∧ Fld Z h xthis "com/example/zhengzi/zhengzi/CorrectionScore" "falseNegatives" "J" (.long x2) ∧ Fld Z h xthis "com/example/zhengzi/zhengzi/CorrectionScore" "trueNegatives" "J" (.long x3)
theorem own_ef6 (m : MethodId) (xthis : Addr) (x0 : Int64) (x1 : Int64) (x2 : Int64) (x3 : Int64) : entryFrame m #[(.ref xthis), (.long x0), (.long x1), (.long x2), (.long x3)] 9 = mkF m 0 #[.val (.ref xthis), .val (.long x0), .second, .val (.long x1), .second, .val (.long x2), .second, .val (.long x3), .second] [] := by first | (simp [entryFrame, mkF, argsToLocals, Value.category]; done) | rfl
set_option maxRecDepth 65536 in
set_option maxHeartbeats 40000000 in
theorem own_rm6 (l : Launch) (Z : State) (a0 : Array Value) (hw : ∀ d ∈ tables_1, d.before a0 Z = true) (ws : List Jvm.Cond) (xthis : Addr) (x0 : Int64) (x1 : Int64) (x2 : Int64) (x3 : Int64) (h0 : Heap) (n0 : Nat) (Z0 : n0 ≤ h0.size) (E_xthis : Exa Z h0 xthis "com/example/zhengzi/zhengzi/CorrectionScore") (F_truePositives_xthis : Fld Z h0 xthis "com/example/zhengzi/zhengzi/CorrectionScore" "truePositives" "J" (.long (0 : Int64))) (F_falsePositives_xthis : Fld Z h0 xthis "com/example/zhengzi/zhengzi/CorrectionScore" "falsePositives" "J" (.long (0 : Int64))) (F_falseNegatives_xthis : Fld Z h0 xthis "com/example/zhengzi/zhengzi/CorrectionScore" "falseNegatives" "J" (.long (0 : Int64))) (F_trueNegatives_xthis : Fld Z h0 xthis "com/example/zhengzi/zhengzi/CorrectionScore" "trueNegatives" "J" (.long (0 : Int64))) (g_xthis : n0 ≤ xthis) :
    MetFree l (⟨"com/example/zhengzi/zhengzi/CorrectionScore", "<init>", "(JJJJ)V"⟩ : MethodName) (head1 (Jvm.Cond.code (⟨"com/example/zhengzi/zhengzi/CorrectionScore", "<init>", "(JJJJ)V"⟩ : MethodName) prog_12_method_1_code 9 none :: ws) ({ frames := 2, cells := 0, slots := 0, locals := 24 } : Room)) (fun a U => a = #[(.ref xthis), (.long x0), (.long x1), (.long x2), (.long x3)] ∧ Z.Warmed39 U.vm ∧ U.heap = h0) (fun _ _ _ _ _ => True) (fun _ U o U' => ∃ v L, o = .returned v ∧ own_Q6 Z xthis x0 x1 x2 x3 h0 n0 v U'.heap L ∧ FrameEnd U o U' L ({ frames := 2, cells := 0, slots := 0, locals := 24 } : Room).cells ({ frames := 2, cells := 0, slots := 0, locals := 24 } : Room).slots) := by
  refine MetFree.of_bodySF (plainFor_of_name own_pn3) hisR ?_
  intro p e s m args below meth c s₁ Bd hml0 hP hK
  obtain ⟨rfl, hZ, hh⟩ := hP
  have hx := Bd.exec
  have hby := Bd.bytes
  have hml : c.maxLocals = 9 := hml0
  have hown : s.vm.findClass "com/example/zhengzi/zhengzi/CorrectionScore" = some m.cls := findClass_of_methodNamed Bd.named
  have hnm := (name_of_methodNamed Bd.named Bd.method).1
  have X0 : Stand p l e ({ frames := 2, cells := 0, slots := 0, locals := 24 } : Room) s m #[(.ref xthis), (.long x0), (.long x1), (.long x2), (.long x3)] below meth c s₁ [] 0 0 := Stand.of_body Bd
  have e0 : s₁.heap = h0 := by rw [← hh, Bd.state]; rfl
  have N0 := Fr.nil n0
  have pre0 : ∀ t, Steps p.tables e below (s₁.setTop (mkF m 0 #[.val (.ref xthis), .val (.long x0), .second, .val (.long x1), .second, .val (.long x2), .second, .val (.long x3), .second] [])) t → Steps p.tables e below (s₁.setTop (entryFrame m #[(.ref xthis), (.long x0), (.long x1), (.long x2), (.long x3)] 9)) t := fun t k => castTop (own_ef6 m xthis x0 x1 x2 x3) k
  have K0 : Keep h0 h0 [xthis] := Keep.refl _ _
  obtain ⟨_, _, ⟨T1, L1, k1, n1⟩, -, X1, ⟨Lc1, hQ1, l1, y1, z1⟩, st1⟩ := X0.specialBack hx (y := (⟨"java/lang/Record", "<init>", "()V"⟩ : MethodName)) rfl hown (mvT hZ (hw _ (List.mem_of_getElem? (i := 32) rfl))) (mvT hZ (hw _ (List.mem_of_getElem? (i := 33) rfl))) (mvT hZ (hw _ (List.mem_of_getElem? (i := 36) rfl))) (by decide) (backOf (W := 0) (own_rm7 l Z a0 hw [] xthis h0 n0 Z0 ) hZ (hw _ (List.mem_of_getElem? (i := 36) rfl)) (hw _ (List.mem_of_getElem? (i := 35) rfl)) (by decide) (by decide)) (g := (mkF m 1 #[.val (.ref xthis), .val (.long x0), .second, .val (.long x1), .second, .val (.long x2), .second, .val (.long x3), .second] [(.ref xthis)])) rfl (by rw [hml]; rfl) (Steps.refl _) (a := xthis) (argsL := []) (rest := []) (lenOf own_pd4 rfl) rfl (by show 2 * 0 + _ ≤ _; exact Nat.le_of_eq rfl) (hb hby own_d6_1) (fun _ _ => ⟨rfl, e0, (by decide : 0 + 0 ≤ _), (by decide : 0 + 0 ≤ _)⟩)
  dsimp only [Pt.U, Pt.locs, Pt.cells, Pt.slots] at X1 l1 y1 z1 st1 hQ1
  subst l1 y1 z1
  obtain ⟨rfl, N1q, eh1⟩ := hQ1
  have N1 := Fr.app N0 N1q
  obtain ⟨T2, h2, X2, e2, W2, st2⟩ := putF X1 hx hZ hown (host := "") (Or.inl (hw _ (List.mem_of_getElem? (i := 38) rfl))) Via.refl eh1 F_truePositives_xthis E_xthis (Or.inr ⟨(hw _ (List.mem_of_getElem? (i := 39) rfl)), rfl, hnm⟩) (hw _ (List.mem_of_getElem? (i := 27) rfl)) (ty := .long) (by decide) rfl rfl (g := (mkF m 6 #[.val (.ref xthis), .val (.long x0), .second, .val (.long x1), .second, .val (.long x2), .second, .val (.long x3), .second] [(.long x0), (.ref xthis)])) rfl rfl (hb hby own_d6_6)
  have F3 : Fld Z h2 xthis "com/example/zhengzi/zhengzi/CorrectionScore" "truePositives" "J" (.long x0) := F_truePositives_xthis.same W2
  have F4 : Exa Z h2 xthis "com/example/zhengzi/zhengzi/CorrectionScore" := E_xthis.wr W2
  have F5 : Fld Z h2 xthis "com/example/zhengzi/zhengzi/CorrectionScore" "falsePositives" "J" (.long (0 : Int64)) := F_falsePositives_xthis.other W2 (Or.inr (slot_ne (Or.inr (hw _ (List.mem_of_getElem? (i := 41) rfl))) (Or.inr (hw _ (List.mem_of_getElem? (i := 39) rfl))) (by decide) (t := .long) (t' := .long) (by decide) (by decide)))
  have F6 : Fld Z h2 xthis "com/example/zhengzi/zhengzi/CorrectionScore" "falseNegatives" "J" (.long (0 : Int64)) := F_falseNegatives_xthis.other W2 (Or.inr (slot_ne (Or.inr (hw _ (List.mem_of_getElem? (i := 43) rfl))) (Or.inr (hw _ (List.mem_of_getElem? (i := 39) rfl))) (by decide) (t := .long) (t' := .long) (by decide) (by decide)))
  have F7 : Fld Z h2 xthis "com/example/zhengzi/zhengzi/CorrectionScore" "trueNegatives" "J" (.long (0 : Int64)) := F_trueNegatives_xthis.other W2 (Or.inr (slot_ne (Or.inr (hw _ (List.mem_of_getElem? (i := 45) rfl))) (Or.inr (hw _ (List.mem_of_getElem? (i := 39) rfl))) (by decide) (t := .long) (t' := .long) (by decide) (by decide)))
  have N2 := Fr.snoc X2 N1 g_xthis
  have Z2 : n0 ≤ h2.size := Nat.le_trans Z0 (Keep.of_wr W2).1
  have K2 : Keep h0 h2 [xthis] := K0.wr W2 (Or.inl (List.mem_of_getElem? (i := 0) rfl))
  obtain ⟨T8, h8, X8, e8, W8, st8⟩ := putF X2 hx hZ hown (host := "") (Or.inl (hw _ (List.mem_of_getElem? (i := 40) rfl))) Via.refl e2 F5 F4 (Or.inr ⟨(hw _ (List.mem_of_getElem? (i := 41) rfl)), rfl, hnm⟩) (hw _ (List.mem_of_getElem? (i := 27) rfl)) (ty := .long) (by decide) rfl rfl (g := (mkF m 11 #[.val (.ref xthis), .val (.long x0), .second, .val (.long x1), .second, .val (.long x2), .second, .val (.long x3), .second] [(.long x1), (.ref xthis)])) rfl rfl (hb hby own_d6_11)
  have F9 : Fld Z h8 xthis "com/example/zhengzi/zhengzi/CorrectionScore" "falsePositives" "J" (.long x1) := F5.same W8
  have F10 : Exa Z h8 xthis "com/example/zhengzi/zhengzi/CorrectionScore" := F4.wr W8
  have F11 : Fld Z h8 xthis "com/example/zhengzi/zhengzi/CorrectionScore" "falseNegatives" "J" (.long (0 : Int64)) := F6.other W8 (Or.inr (slot_ne (Or.inr (hw _ (List.mem_of_getElem? (i := 43) rfl))) (Or.inr (hw _ (List.mem_of_getElem? (i := 41) rfl))) (by decide) (t := .long) (t' := .long) (by decide) (by decide)))
  have F12 : Fld Z h8 xthis "com/example/zhengzi/zhengzi/CorrectionScore" "trueNegatives" "J" (.long (0 : Int64)) := F7.other W8 (Or.inr (slot_ne (Or.inr (hw _ (List.mem_of_getElem? (i := 45) rfl))) (Or.inr (hw _ (List.mem_of_getElem? (i := 41) rfl))) (by decide) (t := .long) (t' := .long) (by decide) (by decide)))
  have F13 : Fld Z h8 xthis "com/example/zhengzi/zhengzi/CorrectionScore" "truePositives" "J" (.long x0) := F3.other W8 (Or.inr (slot_ne (Or.inr (hw _ (List.mem_of_getElem? (i := 39) rfl))) (Or.inr (hw _ (List.mem_of_getElem? (i := 41) rfl))) (by decide) (t := .long) (t' := .long) (by decide) (by decide)))
  have N8 := Fr.snoc X8 N2 g_xthis
  have Z8 : n0 ≤ h8.size := Nat.le_trans Z2 (Keep.of_wr W8).1
  have K8 : Keep h0 h8 [xthis] := K2.wr W8 (Or.inl (List.mem_of_getElem? (i := 0) rfl))
  obtain ⟨T14, h14, X14, e14, W14, st14⟩ := putF X8 hx hZ hown (host := "") (Or.inl (hw _ (List.mem_of_getElem? (i := 42) rfl))) Via.refl e8 F11 F10 (Or.inr ⟨(hw _ (List.mem_of_getElem? (i := 43) rfl)), rfl, hnm⟩) (hw _ (List.mem_of_getElem? (i := 27) rfl)) (ty := .long) (by decide) rfl rfl (g := (mkF m 17 #[.val (.ref xthis), .val (.long x0), .second, .val (.long x1), .second, .val (.long x2), .second, .val (.long x3), .second] [(.long x2), (.ref xthis)])) rfl rfl (hb hby own_d6_17)
  have F15 : Fld Z h14 xthis "com/example/zhengzi/zhengzi/CorrectionScore" "falseNegatives" "J" (.long x2) := F11.same W14
  have F16 : Exa Z h14 xthis "com/example/zhengzi/zhengzi/CorrectionScore" := F10.wr W14
  have F17 : Fld Z h14 xthis "com/example/zhengzi/zhengzi/CorrectionScore" "trueNegatives" "J" (.long (0 : Int64)) := F12.other W14 (Or.inr (slot_ne (Or.inr (hw _ (List.mem_of_getElem? (i := 45) rfl))) (Or.inr (hw _ (List.mem_of_getElem? (i := 43) rfl))) (by decide) (t := .long) (t' := .long) (by decide) (by decide)))
  have F18 : Fld Z h14 xthis "com/example/zhengzi/zhengzi/CorrectionScore" "truePositives" "J" (.long x0) := F13.other W14 (Or.inr (slot_ne (Or.inr (hw _ (List.mem_of_getElem? (i := 39) rfl))) (Or.inr (hw _ (List.mem_of_getElem? (i := 43) rfl))) (by decide) (t := .long) (t' := .long) (by decide) (by decide)))
  have F19 : Fld Z h14 xthis "com/example/zhengzi/zhengzi/CorrectionScore" "falsePositives" "J" (.long x1) := F9.other W14 (Or.inr (slot_ne (Or.inr (hw _ (List.mem_of_getElem? (i := 41) rfl))) (Or.inr (hw _ (List.mem_of_getElem? (i := 43) rfl))) (by decide) (t := .long) (t' := .long) (by decide) (by decide)))
  have N14 := Fr.snoc X14 N8 g_xthis
  have Z14 : n0 ≤ h14.size := Nat.le_trans Z8 (Keep.of_wr W14).1
  have K14 : Keep h0 h14 [xthis] := K8.wr W14 (Or.inl (List.mem_of_getElem? (i := 0) rfl))
  obtain ⟨T20, h20, X20, e20, W20, st20⟩ := putF X14 hx hZ hown (host := "") (Or.inl (hw _ (List.mem_of_getElem? (i := 44) rfl))) Via.refl e14 F17 F16 (Or.inr ⟨(hw _ (List.mem_of_getElem? (i := 45) rfl)), rfl, hnm⟩) (hw _ (List.mem_of_getElem? (i := 27) rfl)) (ty := .long) (by decide) rfl rfl (g := (mkF m 23 #[.val (.ref xthis), .val (.long x0), .second, .val (.long x1), .second, .val (.long x2), .second, .val (.long x3), .second] [(.long x3), (.ref xthis)])) rfl rfl (hb hby own_d6_23)
  have F21 : Fld Z h20 xthis "com/example/zhengzi/zhengzi/CorrectionScore" "trueNegatives" "J" (.long x3) := F17.same W20
  have F22 : Exa Z h20 xthis "com/example/zhengzi/zhengzi/CorrectionScore" := F16.wr W20
  have F23 : Fld Z h20 xthis "com/example/zhengzi/zhengzi/CorrectionScore" "truePositives" "J" (.long x0) := F18.other W20 (Or.inr (slot_ne (Or.inr (hw _ (List.mem_of_getElem? (i := 39) rfl))) (Or.inr (hw _ (List.mem_of_getElem? (i := 45) rfl))) (by decide) (t := .long) (t' := .long) (by decide) (by decide)))
  have F24 : Fld Z h20 xthis "com/example/zhengzi/zhengzi/CorrectionScore" "falsePositives" "J" (.long x1) := F19.other W20 (Or.inr (slot_ne (Or.inr (hw _ (List.mem_of_getElem? (i := 41) rfl))) (Or.inr (hw _ (List.mem_of_getElem? (i := 45) rfl))) (by decide) (t := .long) (t' := .long) (by decide) (by decide)))
  have F25 : Fld Z h20 xthis "com/example/zhengzi/zhengzi/CorrectionScore" "falseNegatives" "J" (.long x2) := F15.other W20 (Or.inr (slot_ne (Or.inr (hw _ (List.mem_of_getElem? (i := 43) rfl))) (Or.inr (hw _ (List.mem_of_getElem? (i := 45) rfl))) (by decide) (t := .long) (t' := .long) (by decide) (by decide)))
  have N20 := Fr.snoc X20 N14 g_xthis
  have Z20 : n0 ≤ h20.size := Nat.le_trans Z14 (Keep.of_wr W20).1
  have K20 : Keep h0 h20 [xthis] := K14.wr W20 (Or.inl (List.mem_of_getElem? (i := 0) rfl))
  obtain ⟨fs, hr, hrun, hended, hW, hsame⟩ := X20.leave (v := none) (fun _ => rfl)
  refine ⟨_, _, pre0 _ ?_, hrun, hended, _, _, rfl, ?_, ⟨_, rfl⟩, hW, hsame.mono (by decide) (by decide)⟩
  · show Steps p.tables e below (s₁.setTop (mkF m 0 #[.val (.ref xthis), .val (.long x0), .second, .val (.long x1), .second, .val (.long x2), .second, .val (.long x3), .second] [])) _
    refine XS.aloadN X0.here hx rfl (hb hby own_d6_0) rfl rfl ?_
    show Steps p.tables e below (s₁.setTop (mkF m 1 #[.val (.ref xthis), .val (.long x0), .second, .val (.long x1), .second, .val (.long x2), .second, .val (.long x3), .second] [(.ref xthis)])) _
    refine st1.trans ?_
    show Steps p.tables e below (T1.setTop (mkF m 4 #[.val (.ref xthis), .val (.long x0), .second, .val (.long x1), .second, .val (.long x2), .second, .val (.long x3), .second] [])) _
    refine XS.aloadN X1.here hx rfl (hb hby own_d6_4) rfl rfl ?_
    show Steps p.tables e below (T1.setTop (mkF m 5 #[.val (.ref xthis), .val (.long x0), .second, .val (.long x1), .second, .val (.long x2), .second, .val (.long x3), .second] [(.ref xthis)])) _
    refine XS.lloadN X1.here hx rfl (hb hby own_d6_5) rfl ?_
    show Steps p.tables e below (T1.setTop (mkF m 6 #[.val (.ref xthis), .val (.long x0), .second, .val (.long x1), .second, .val (.long x2), .second, .val (.long x3), .second] [(.long x0), (.ref xthis)])) _
    refine st2 _ ?_
    show Steps p.tables e below (T2.setTop (mkF m 9 #[.val (.ref xthis), .val (.long x0), .second, .val (.long x1), .second, .val (.long x2), .second, .val (.long x3), .second] [])) _
    refine XS.aloadN X2.here hx rfl (hb hby own_d6_9) rfl rfl ?_
    show Steps p.tables e below (T2.setTop (mkF m 10 #[.val (.ref xthis), .val (.long x0), .second, .val (.long x1), .second, .val (.long x2), .second, .val (.long x3), .second] [(.ref xthis)])) _
    refine XS.lloadN X2.here hx rfl (hb hby own_d6_10) rfl ?_
    show Steps p.tables e below (T2.setTop (mkF m 11 #[.val (.ref xthis), .val (.long x0), .second, .val (.long x1), .second, .val (.long x2), .second, .val (.long x3), .second] [(.long x1), (.ref xthis)])) _
    refine st8 _ ?_
    show Steps p.tables e below (T8.setTop (mkF m 14 #[.val (.ref xthis), .val (.long x0), .second, .val (.long x1), .second, .val (.long x2), .second, .val (.long x3), .second] [])) _
    refine XS.aloadN X8.here hx rfl (hb hby own_d6_14) rfl rfl ?_
    show Steps p.tables e below (T8.setTop (mkF m 15 #[.val (.ref xthis), .val (.long x0), .second, .val (.long x1), .second, .val (.long x2), .second, .val (.long x3), .second] [(.ref xthis)])) _
    refine XS.lload X8.here hx rfl (hb hby own_d6_15) rfl ?_
    show Steps p.tables e below (T8.setTop (mkF m 17 #[.val (.ref xthis), .val (.long x0), .second, .val (.long x1), .second, .val (.long x2), .second, .val (.long x3), .second] [(.long x2), (.ref xthis)])) _
    refine st14 _ ?_
    show Steps p.tables e below (T14.setTop (mkF m 20 #[.val (.ref xthis), .val (.long x0), .second, .val (.long x1), .second, .val (.long x2), .second, .val (.long x3), .second] [])) _
    refine XS.aloadN X14.here hx rfl (hb hby own_d6_20) rfl rfl ?_
    show Steps p.tables e below (T14.setTop (mkF m 21 #[.val (.ref xthis), .val (.long x0), .second, .val (.long x1), .second, .val (.long x2), .second, .val (.long x3), .second] [(.ref xthis)])) _
    refine XS.lload X14.here hx rfl (hb hby own_d6_21) rfl ?_
    show Steps p.tables e below (T14.setTop (mkF m 23 #[.val (.ref xthis), .val (.long x0), .second, .val (.long x1), .second, .val (.long x2), .second, .val (.long x3), .second] [(.long x3), (.ref xthis)])) _
    refine st20 _ ?_
    show Steps p.tables e below (T20.setTop (mkF m 26 #[.val (.ref xthis), .val (.long x0), .second, .val (.long x1), .second, .val (.long x2), .second, .val (.long x3), .second] [])) _
    exact X20.returnOut hx Bd.returns (hb hby own_d6_26) hr
  · show own_Q6 Z xthis x0 x1 x2 x3 h0 n0 _ T20.heap _
    rw [e20]
    exact ⟨rfl, N20, K20, F22, F23, F24, F25, F21⟩
theorem own_d11_0 : decode prog_12_method_7_code 0 = .ok (.aload_n 0, 1) := by decide +kernel
theorem own_d11_1 : decode prog_12_method_7_code 1 = .ok (.getfield 7, 3) := by decide +kernel
theorem own_d11_4 : decode prog_12_method_7_code 4 = .ok (.aload_n 0, 1) := by decide +kernel
theorem own_d11_5 : decode prog_12_method_7_code 5 = .ok (.getfield 13, 3) := by decide +kernel
theorem own_d11_8 : decode prog_12_method_7_code 8 = .ok (.ladd, 1) := by decide +kernel
theorem own_d11_9 : decode prog_12_method_7_code 9 = .ok (.aload_n 0, 1) := by decide +kernel
theorem own_d11_10 : decode prog_12_method_7_code 10 = .ok (.getfield 16, 3) := by decide +kernel
theorem own_d11_13 : decode prog_12_method_7_code 13 = .ok (.ladd, 1) := by decide +kernel
theorem own_d11_14 : decode prog_12_method_7_code 14 = .ok (.aload_n 0, 1) := by decide +kernel
theorem own_d11_15 : decode prog_12_method_7_code 15 = .ok (.getfield 19, 3) := by decide +kernel
theorem own_d11_18 : decode prog_12_method_7_code 18 = .ok (.ladd, 1) := by decide +kernel
theorem own_d11_19 : decode prog_12_method_7_code 19 = .ok (.lreturn, 1) := by decide +kernel
def own_Q11 (Z : State) (xthis : Addr) (u0 : Int64) (u1 : Int64) (u2 : Int64) (u3 : Int64) (h0 : Heap) (n0 : Nat) (v : Option Value) (h : Heap) (L : List Loc) : Prop := v = some (.long (((u0 + u1) + u2) + u3)) ∧ Fr n0 L ∧ h = h0
theorem own_ef11 (m : MethodId) (xthis : Addr) : entryFrame m #[(.ref xthis)] 1 = mkF m 0 #[.val (.ref xthis)] [] := by first | (simp [entryFrame, mkF, argsToLocals, Value.category]; done) | rfl
set_option maxRecDepth 65536 in
set_option maxHeartbeats 40000000 in
theorem own_rm11 (l : Launch) (Z : State) (a0 : Array Value) (hw : ∀ d ∈ tables_1, d.before a0 Z = true) (ws : List Jvm.Cond) (xthis : Addr) (u0 : Int64) (u1 : Int64) (u2 : Int64) (u3 : Int64) (h0 : Heap) (n0 : Nat) (Z0 : n0 ≤ h0.size) (F_truePositives_xthis : Fld Z h0 xthis "com/example/zhengzi/zhengzi/CorrectionScore" "truePositives" "J" (.long u0)) (F_falsePositives_xthis : Fld Z h0 xthis "com/example/zhengzi/zhengzi/CorrectionScore" "falsePositives" "J" (.long u1)) (F_falseNegatives_xthis : Fld Z h0 xthis "com/example/zhengzi/zhengzi/CorrectionScore" "falseNegatives" "J" (.long u2)) (F_trueNegatives_xthis : Fld Z h0 xthis "com/example/zhengzi/zhengzi/CorrectionScore" "trueNegatives" "J" (.long u3)) :
    MetFree l (⟨"com/example/zhengzi/zhengzi/CorrectionScore", "pairs", "()J"⟩ : MethodName) (head1 (Jvm.Cond.code (⟨"com/example/zhengzi/zhengzi/CorrectionScore", "pairs", "()J"⟩ : MethodName) prog_12_method_7_code 1 (some .long) :: ws) ({ frames := 0, cells := 0, slots := 0, locals := 0 } : Room)) (fun a U => a = #[(.ref xthis)] ∧ Z.Warmed39 U.vm ∧ U.heap = h0) (fun _ _ _ _ _ => True) (fun _ U o U' => ∃ v L, o = .returned v ∧ own_Q11 Z xthis u0 u1 u2 u3 h0 n0 v U'.heap L ∧ FrameEnd U o U' L ({ frames := 0, cells := 0, slots := 0, locals := 0 } : Room).cells ({ frames := 0, cells := 0, slots := 0, locals := 0 } : Room).slots) := by
  refine MetFree.of_bodySF (plainFor_of_name own_pn3) hisR ?_
  intro p e s m args below meth c s₁ Bd hml0 hP hK
  obtain ⟨rfl, hZ, hh⟩ := hP
  have hx := Bd.exec
  have hby := Bd.bytes
  have hml : c.maxLocals = 1 := hml0
  have hown : s.vm.findClass "com/example/zhengzi/zhengzi/CorrectionScore" = some m.cls := findClass_of_methodNamed Bd.named
  have hnm := (name_of_methodNamed Bd.named Bd.method).1
  have X0 : Stand p l e ({ frames := 0, cells := 0, slots := 0, locals := 0 } : Room) s m #[(.ref xthis)] below meth c s₁ [] 0 0 := Stand.of_body Bd
  have e0 : s₁.heap = h0 := by rw [← hh, Bd.state]; rfl
  have N0 := Fr.nil n0
  have pre0 : ∀ t, Steps p.tables e below (s₁.setTop (mkF m 0 #[.val (.ref xthis)] [])) t → Steps p.tables e below (s₁.setTop (entryFrame m #[(.ref xthis)] 1)) t := fun t k => castTop (own_ef11 m xthis) k
  obtain ⟨T1, X1, e1, st1⟩ := getF X0 hx hZ hown (host := "") (Or.inl (hw _ (List.mem_of_getElem? (i := 38) rfl))) Via.refl e0 F_truePositives_xthis (g := (mkF m 1 #[.val (.ref xthis)] [(.ref xthis)])) rfl rfl (hb hby own_d11_1)
  obtain ⟨T2, X2, e2, st2⟩ := getF X1 hx hZ hown (host := "") (Or.inl (hw _ (List.mem_of_getElem? (i := 40) rfl))) Via.refl e1 F_falsePositives_xthis (g := (mkF m 5 #[.val (.ref xthis)] [(.ref xthis), (.long u0)])) rfl rfl (hb hby own_d11_5)
  obtain ⟨T3, X3, e3, st3⟩ := getF X2 hx hZ hown (host := "") (Or.inl (hw _ (List.mem_of_getElem? (i := 42) rfl))) Via.refl e2 F_falseNegatives_xthis (g := (mkF m 10 #[.val (.ref xthis)] [(.ref xthis), (.long (u0 + u1))])) rfl rfl (hb hby own_d11_10)
  obtain ⟨T4, X4, e4, st4⟩ := getF X3 hx hZ hown (host := "") (Or.inl (hw _ (List.mem_of_getElem? (i := 44) rfl))) Via.refl e3 F_trueNegatives_xthis (g := (mkF m 15 #[.val (.ref xthis)] [(.ref xthis), (.long ((u0 + u1) + u2))])) rfl rfl (hb hby own_d11_15)
  obtain ⟨fs, hr, hrun, hended, hW, hsame⟩ := X4.leave (v := some (.long (((u0 + u1) + u2) + u3))) (fun h => by rw [Bd.returns] at h; cases h)
  refine ⟨_, _, pre0 _ ?_, hrun, hended, _, _, rfl, ?_, ⟨_, rfl⟩, hW, hsame.mono (by decide) (by decide)⟩
  · show Steps p.tables e below (s₁.setTop (mkF m 0 #[.val (.ref xthis)] [])) _
    refine XS.aloadN X0.here hx rfl (hb hby own_d11_0) rfl rfl ?_
    show Steps p.tables e below (s₁.setTop (mkF m 1 #[.val (.ref xthis)] [(.ref xthis)])) _
    refine st1 _ ?_
    show Steps p.tables e below (T1.setTop (mkF m 4 #[.val (.ref xthis)] [(.long u0)])) _
    refine XS.aloadN X1.here hx rfl (hb hby own_d11_4) rfl rfl ?_
    show Steps p.tables e below (T1.setTop (mkF m 5 #[.val (.ref xthis)] [(.ref xthis), (.long u0)])) _
    refine st2 _ ?_
    show Steps p.tables e below (T2.setTop (mkF m 8 #[.val (.ref xthis)] [(.long u1), (.long u0)])) _
    refine XS.ladd X2.here hx rfl (hb hby own_d11_8) rfl ?_
    show Steps p.tables e below (T2.setTop (mkF m 9 #[.val (.ref xthis)] [(.long (u0 + u1))])) _
    refine XS.aloadN X2.here hx rfl (hb hby own_d11_9) rfl rfl ?_
    show Steps p.tables e below (T2.setTop (mkF m 10 #[.val (.ref xthis)] [(.ref xthis), (.long (u0 + u1))])) _
    refine st3 _ ?_
    show Steps p.tables e below (T3.setTop (mkF m 13 #[.val (.ref xthis)] [(.long u2), (.long (u0 + u1))])) _
    refine XS.ladd X3.here hx rfl (hb hby own_d11_13) rfl ?_
    show Steps p.tables e below (T3.setTop (mkF m 14 #[.val (.ref xthis)] [(.long ((u0 + u1) + u2))])) _
    refine XS.aloadN X3.here hx rfl (hb hby own_d11_14) rfl rfl ?_
    show Steps p.tables e below (T3.setTop (mkF m 15 #[.val (.ref xthis)] [(.ref xthis), (.long ((u0 + u1) + u2))])) _
    refine st4 _ ?_
    show Steps p.tables e below (T4.setTop (mkF m 18 #[.val (.ref xthis)] [(.long u3), (.long ((u0 + u1) + u2))])) _
    refine XS.ladd X4.here hx rfl (hb hby own_d11_18) rfl ?_
    show Steps p.tables e below (T4.setTop (mkF m 19 #[.val (.ref xthis)] [(.long (((u0 + u1) + u2) + u3))])) _
    exact retJ X4 hx Bd.returns (hb hby own_d11_19) hr
  · show own_Q11 Z xthis u0 u1 u2 u3 h0 n0 _ T4.heap _
    rw [e4]
    exact ⟨rfl, N0, rfl⟩
theorem own_pd5 : parseMethodDescriptor "(JJJJ)V" = some ⟨[.long, .long, .long, .long], none⟩ := by decide +kernel
theorem own_d12_0 : decode prog_12_method_6_code 0 = .ok (.new 8, 3) := by decide +kernel
theorem own_d12_3 : decode prog_12_method_6_code 3 = .ok (.dup, 1) := by decide +kernel
theorem own_d12_4 : decode prog_12_method_6_code 4 = .ok (.aload_n 0, 1) := by decide +kernel
theorem own_d12_5 : decode prog_12_method_6_code 5 = .ok (.getfield 7, 3) := by decide +kernel
theorem own_d12_8 : decode prog_12_method_6_code 8 = .ok (.aload_n 1, 1) := by decide +kernel
theorem own_d12_9 : decode prog_12_method_6_code 9 = .ok (.getfield 7, 3) := by decide +kernel
theorem own_d12_12 : decode prog_12_method_6_code 12 = .ok (.ladd, 1) := by decide +kernel
theorem own_d12_13 : decode prog_12_method_6_code 13 = .ok (.aload_n 0, 1) := by decide +kernel
theorem own_d12_14 : decode prog_12_method_6_code 14 = .ok (.getfield 13, 3) := by decide +kernel
theorem own_d12_17 : decode prog_12_method_6_code 17 = .ok (.aload_n 1, 1) := by decide +kernel
theorem own_d12_18 : decode prog_12_method_6_code 18 = .ok (.getfield 13, 3) := by decide +kernel
theorem own_d12_21 : decode prog_12_method_6_code 21 = .ok (.ladd, 1) := by decide +kernel
theorem own_d12_22 : decode prog_12_method_6_code 22 = .ok (.aload_n 0, 1) := by decide +kernel
theorem own_d12_23 : decode prog_12_method_6_code 23 = .ok (.getfield 16, 3) := by decide +kernel
theorem own_d12_26 : decode prog_12_method_6_code 26 = .ok (.aload_n 1, 1) := by decide +kernel
theorem own_d12_27 : decode prog_12_method_6_code 27 = .ok (.getfield 16, 3) := by decide +kernel
theorem own_d12_30 : decode prog_12_method_6_code 30 = .ok (.ladd, 1) := by decide +kernel
theorem own_d12_31 : decode prog_12_method_6_code 31 = .ok (.aload_n 0, 1) := by decide +kernel
theorem own_d12_32 : decode prog_12_method_6_code 32 = .ok (.getfield 19, 3) := by decide +kernel
theorem own_d12_35 : decode prog_12_method_6_code 35 = .ok (.aload_n 1, 1) := by decide +kernel
theorem own_d12_36 : decode prog_12_method_6_code 36 = .ok (.getfield 19, 3) := by decide +kernel
theorem own_d12_39 : decode prog_12_method_6_code 39 = .ok (.ladd, 1) := by decide +kernel
theorem own_d12_40 : decode prog_12_method_6_code 40 = .ok (.invokespecial 28, 3) := by decide +kernel
theorem own_d12_43 : decode prog_12_method_6_code 43 = .ok (.areturn, 1) := by decide +kernel
def own_Q12 (Z : State) (xa : Addr) (xb : Addr) (u0 : Int64) (u1 : Int64) (u2 : Int64) (u3 : Int64) (t0 : Int64) (t1 : Int64) (t2 : Int64) (t3 : Int64) (h0 : Heap) (n0 : Nat) (v : Option Value) (h : Heap) (L : List Loc) : Prop := ∃ (xn : Addr), v = some (.ref xn) ∧ Fr n0 L ∧ Keep h0 h [] ∧ h0.size ≤ xn ∧ xn < h.size ∧ Exa Z h xn "com/example/zhengzi/zhengzi/CorrectionScore" ∧ Fld Z h xn "com/example/zhengzi/zhengzi/CorrectionScore" "truePositives" "J" (.long (u0 + t0)) ∧ Fld Z h xn "com/example/zhengzi/zhengzi/CorrectionScore" "falsePositives" "J" (.long (u1 + t1)) ∧ Fld Z h xn "com/example/zhengzi/zhengzi/CorrectionScore" "falseNegatives" "J" (.long (u2 + t2)) ∧ Fld Z h xn "com/example/zhengzi/zhengzi/CorrectionScore" "trueNegatives" "J" (.long (u3 + t3))
theorem own_ef12 (m : MethodId) (xa : Addr) (xb : Addr) : entryFrame m #[(.ref xa), (.ref xb)] 2 = mkF m 0 #[.val (.ref xa), .val (.ref xb)] [] := by first | (simp [entryFrame, mkF, argsToLocals, Value.category]; done) | rfl
set_option maxRecDepth 65536 in
set_option maxHeartbeats 40000000 in
theorem own_rm12 (l : Launch) (Z : State) (a0 : Array Value) (hw : ∀ d ∈ tables_1, d.before a0 Z = true) (ws : List Jvm.Cond) (xa : Addr) (xb : Addr) (u0 : Int64) (u1 : Int64) (u2 : Int64) (u3 : Int64) (t0 : Int64) (t1 : Int64) (t2 : Int64) (t3 : Int64) (h0 : Heap) (n0 : Nat) (Z0 : n0 ≤ h0.size) (F_truePositives_xa : Fld Z h0 xa "com/example/zhengzi/zhengzi/CorrectionScore" "truePositives" "J" (.long u0)) (F_falsePositives_xa : Fld Z h0 xa "com/example/zhengzi/zhengzi/CorrectionScore" "falsePositives" "J" (.long u1)) (F_falseNegatives_xa : Fld Z h0 xa "com/example/zhengzi/zhengzi/CorrectionScore" "falseNegatives" "J" (.long u2)) (F_trueNegatives_xa : Fld Z h0 xa "com/example/zhengzi/zhengzi/CorrectionScore" "trueNegatives" "J" (.long u3)) (F_truePositives_xb : Fld Z h0 xb "com/example/zhengzi/zhengzi/CorrectionScore" "truePositives" "J" (.long t0)) (F_falsePositives_xb : Fld Z h0 xb "com/example/zhengzi/zhengzi/CorrectionScore" "falsePositives" "J" (.long t1)) (F_falseNegatives_xb : Fld Z h0 xb "com/example/zhengzi/zhengzi/CorrectionScore" "falseNegatives" "J" (.long t2)) (F_trueNegatives_xb : Fld Z h0 xb "com/example/zhengzi/zhengzi/CorrectionScore" "trueNegatives" "J" (.long t3)) :
    MetFree l (⟨"com/example/zhengzi/zhengzi/CorrectionScore", "plus", "(Lcom/example/zhengzi/zhengzi/CorrectionScore;)Lcom/example/zhengzi/zhengzi/CorrectionScore;"⟩ : MethodName) (head1 (Jvm.Cond.code (⟨"com/example/zhengzi/zhengzi/CorrectionScore", "plus", "(Lcom/example/zhengzi/zhengzi/CorrectionScore;)Lcom/example/zhengzi/zhengzi/CorrectionScore;"⟩ : MethodName) prog_12_method_6_code 2 (some (.object "com/example/zhengzi/zhengzi/CorrectionScore")) :: ws) ({ frames := 3, cells := 1, slots := 4, locals := 45 } : Room)) (fun a U => a = #[(.ref xa), (.ref xb)] ∧ Z.Warmed39 U.vm ∧ U.heap = h0) (fun _ _ _ _ _ => True) (fun _ U o U' => ∃ v L, o = .returned v ∧ own_Q12 Z xa xb u0 u1 u2 u3 t0 t1 t2 t3 h0 n0 v U'.heap L ∧ FrameEnd U o U' L ({ frames := 3, cells := 1, slots := 4, locals := 45 } : Room).cells ({ frames := 3, cells := 1, slots := 4, locals := 45 } : Room).slots) := by
  refine MetFree.of_bodySF (plainFor_of_name own_pn3) hisR ?_
  intro p e s m args below meth c s₁ Bd hml0 hP hK
  obtain ⟨rfl, hZ, hh⟩ := hP
  have hx := Bd.exec
  have hby := Bd.bytes
  have hml : c.maxLocals = 2 := hml0
  have hown : s.vm.findClass "com/example/zhengzi/zhengzi/CorrectionScore" = some m.cls := findClass_of_methodNamed Bd.named
  have hnm := (name_of_methodNamed Bd.named Bd.method).1
  have X0 : Stand p l e ({ frames := 3, cells := 1, slots := 4, locals := 45 } : Room) s m #[(.ref xa), (.ref xb)] below meth c s₁ [] 0 0 := Stand.of_body Bd
  have e0 : s₁.heap = h0 := by rw [← hh, Bd.state]; rfl
  have N0 := Fr.nil n0
  have pre0 : ∀ t, Steps p.tables e below (s₁.setTop (mkF m 0 #[.val (.ref xa), .val (.ref xb)] [])) t → Steps p.tables e below (s₁.setTop (entryFrame m #[(.ref xa), (.ref xb)] 2)) t := fun t k => castTop (own_ef12 m xa xb) k
  have K0 : Keep h0 h0 [] := Keep.refl _ _
  obtain ⟨T1, h1, X1, e1, E1, A1, D1, -, st1⟩ := newO X0 hx hZ hown (hw _ (List.mem_of_getElem? (i := 57) rfl)) (hw _ (List.mem_of_getElem? (i := 27) rfl)) (hw _ (List.mem_of_getElem? (i := 28) rfl)) e0 (g := (mkF m 0 #[.val (.ref xa), .val (.ref xb)] [])) rfl (hb hby own_d12_0) (by decide) (by decide)
  obtain ⟨b1, g1⟩ : ∃ z, z = h0.size := ⟨_, rfl⟩
  rw [← g1] at A1 D1 st1
  have ne_xa_b1 : xa ≠ b1 := Nat.ne_of_lt (Nat.lt_of_lt_of_le F_trueNegatives_xa.lt (Nat.le_of_eq g1.symm))
  have ne_xb_b1 : xb ≠ b1 := Nat.ne_of_lt (Nat.lt_of_lt_of_le F_trueNegatives_xb.lt (Nat.le_of_eq g1.symm))
  have g_b1 : n0 ≤ b1 := Nat.le_trans Z0 (Nat.le_of_eq g1.symm)
  have sz_b1 : h0.size ≤ b1 := Nat.le_trans K0.1 (Nat.le_of_eq g1.symm)
  have K1 : Keep h0 h1 [] := K0.ext E1
  have F2 : Fld Z h1 xa "com/example/zhengzi/zhengzi/CorrectionScore" "truePositives" "J" (.long u0) := F_truePositives_xa.ext E1
  have F3 : Fld Z h1 xa "com/example/zhengzi/zhengzi/CorrectionScore" "falsePositives" "J" (.long u1) := F_falsePositives_xa.ext E1
  have F4 : Fld Z h1 xa "com/example/zhengzi/zhengzi/CorrectionScore" "falseNegatives" "J" (.long u2) := F_falseNegatives_xa.ext E1
  have F5 : Fld Z h1 xa "com/example/zhengzi/zhengzi/CorrectionScore" "trueNegatives" "J" (.long u3) := F_trueNegatives_xa.ext E1
  have F6 : Fld Z h1 xb "com/example/zhengzi/zhengzi/CorrectionScore" "truePositives" "J" (.long t0) := F_truePositives_xb.ext E1
  have F7 : Fld Z h1 xb "com/example/zhengzi/zhengzi/CorrectionScore" "falsePositives" "J" (.long t1) := F_falsePositives_xb.ext E1
  have F8 : Fld Z h1 xb "com/example/zhengzi/zhengzi/CorrectionScore" "falseNegatives" "J" (.long t2) := F_falseNegatives_xb.ext E1
  have F9 : Fld Z h1 xb "com/example/zhengzi/zhengzi/CorrectionScore" "trueNegatives" "J" (.long t3) := F_trueNegatives_xb.ext E1
  have Z1 : n0 ≤ h1.size := Nat.le_trans Z0 E1.1
  have F10 : Fld Z h1 b1 "com/example/zhengzi/zhengzi/CorrectionScore" "truePositives" "J" (.long (0 : Int64)) := D1 (Or.inr (hw _ (List.mem_of_getElem? (i := 39) rfl))) (ty := .long) (by decide)
  have F11 : Fld Z h1 b1 "com/example/zhengzi/zhengzi/CorrectionScore" "falsePositives" "J" (.long (0 : Int64)) := D1 (Or.inr (hw _ (List.mem_of_getElem? (i := 41) rfl))) (ty := .long) (by decide)
  have F12 : Fld Z h1 b1 "com/example/zhengzi/zhengzi/CorrectionScore" "falseNegatives" "J" (.long (0 : Int64)) := D1 (Or.inr (hw _ (List.mem_of_getElem? (i := 43) rfl))) (ty := .long) (by decide)
  have F13 : Fld Z h1 b1 "com/example/zhengzi/zhengzi/CorrectionScore" "trueNegatives" "J" (.long (0 : Int64)) := D1 (Or.inr (hw _ (List.mem_of_getElem? (i := 45) rfl))) (ty := .long) (by decide)
  obtain ⟨T14, X14, e14, st14⟩ := getF X1 hx hZ hown (host := "") (Or.inl (hw _ (List.mem_of_getElem? (i := 38) rfl))) Via.refl e1 F2 (g := (mkF m 5 #[.val (.ref xa), .val (.ref xb)] [(.ref xa), (.ref b1), (.ref b1)])) rfl rfl (hb hby own_d12_5)
  obtain ⟨T15, X15, e15, st15⟩ := getF X14 hx hZ hown (host := "") (Or.inl (hw _ (List.mem_of_getElem? (i := 38) rfl))) Via.refl e14 F6 (g := (mkF m 9 #[.val (.ref xa), .val (.ref xb)] [(.ref xb), (.long u0), (.ref b1), (.ref b1)])) rfl rfl (hb hby own_d12_9)
  obtain ⟨T16, X16, e16, st16⟩ := getF X15 hx hZ hown (host := "") (Or.inl (hw _ (List.mem_of_getElem? (i := 40) rfl))) Via.refl e15 F3 (g := (mkF m 14 #[.val (.ref xa), .val (.ref xb)] [(.ref xa), (.long (u0 + t0)), (.ref b1), (.ref b1)])) rfl rfl (hb hby own_d12_14)
  obtain ⟨T17, X17, e17, st17⟩ := getF X16 hx hZ hown (host := "") (Or.inl (hw _ (List.mem_of_getElem? (i := 40) rfl))) Via.refl e16 F7 (g := (mkF m 18 #[.val (.ref xa), .val (.ref xb)] [(.ref xb), (.long u1), (.long (u0 + t0)), (.ref b1), (.ref b1)])) rfl rfl (hb hby own_d12_18)
  obtain ⟨T18, X18, e18, st18⟩ := getF X17 hx hZ hown (host := "") (Or.inl (hw _ (List.mem_of_getElem? (i := 42) rfl))) Via.refl e17 F4 (g := (mkF m 23 #[.val (.ref xa), .val (.ref xb)] [(.ref xa), (.long (u1 + t1)), (.long (u0 + t0)), (.ref b1), (.ref b1)])) rfl rfl (hb hby own_d12_23)
  obtain ⟨T19, X19, e19, st19⟩ := getF X18 hx hZ hown (host := "") (Or.inl (hw _ (List.mem_of_getElem? (i := 42) rfl))) Via.refl e18 F8 (g := (mkF m 27 #[.val (.ref xa), .val (.ref xb)] [(.ref xb), (.long u2), (.long (u1 + t1)), (.long (u0 + t0)), (.ref b1), (.ref b1)])) rfl rfl (hb hby own_d12_27)
  obtain ⟨T20, X20, e20, st20⟩ := getF X19 hx hZ hown (host := "") (Or.inl (hw _ (List.mem_of_getElem? (i := 44) rfl))) Via.refl e19 F5 (g := (mkF m 32 #[.val (.ref xa), .val (.ref xb)] [(.ref xa), (.long (u2 + t2)), (.long (u1 + t1)), (.long (u0 + t0)), (.ref b1), (.ref b1)])) rfl rfl (hb hby own_d12_32)
  obtain ⟨T21, X21, e21, st21⟩ := getF X20 hx hZ hown (host := "") (Or.inl (hw _ (List.mem_of_getElem? (i := 44) rfl))) Via.refl e20 F9 (g := (mkF m 36 #[.val (.ref xa), .val (.ref xb)] [(.ref xb), (.long u3), (.long (u2 + t2)), (.long (u1 + t1)), (.long (u0 + t0)), (.ref b1), (.ref b1)])) rfl rfl (hb hby own_d12_36)
  obtain ⟨_, _, ⟨T22, L22, k22, n22⟩, -, X22, ⟨Lc22, hQ22, l22, y22, z22⟩, st22⟩ := X21.specialBack hx (y := (⟨"com/example/zhengzi/zhengzi/CorrectionScore", "<init>", "(JJJJ)V"⟩ : MethodName)) rfl hown (mvT hZ (hw _ (List.mem_of_getElem? (i := 58) rfl))) (mvT hZ (hw _ (List.mem_of_getElem? (i := 30) rfl))) (mvT hZ (hw _ (List.mem_of_getElem? (i := 31) rfl))) (by decide) (backOf (W := 1) (own_rm6 l Z a0 hw [] b1 (u0 + t0) (u1 + t1) (u2 + t2) (u3 + t3) h1 n0 Z1 A1 F10 F11 F12 F13 g_b1) hZ (hw _ (List.mem_of_getElem? (i := 31) rfl)) (hw _ (List.mem_of_getElem? (i := 28) rfl)) (by decide) (by decide)) (g := (mkF m 40 #[.val (.ref xa), .val (.ref xb)] [(.long (u3 + t3)), (.long (u2 + t2)), (.long (u1 + t1)), (.long (u0 + t0)), (.ref b1), (.ref b1)])) rfl (by rw [hml]; rfl) (Steps.refl _) (a := b1) (argsL := [(.long (u0 + t0)), (.long (u1 + t1)), (.long (u2 + t2)), (.long (u3 + t3))]) (rest := [(.ref b1)]) (lenOf own_pd5 rfl) rfl (by show 2 * 0 + _ ≤ _; exact Nat.le_of_eq rfl) (hb hby own_d12_40) (fun _ _ => ⟨rfl, e21, (by decide : 1 + 0 ≤ _), (by decide : 4 + 0 ≤ _)⟩)
  dsimp only [Pt.U, Pt.locs, Pt.cells, Pt.slots] at X22 l22 y22 z22 st22 hQ22
  subst l22 y22 z22
  obtain ⟨rfl, N22q, K22q, F23, F24, F25, F26, F27⟩ := hQ22
  have K22 := K22q
  have KK22 : Keep h0 T22.heap [] := K1.trans K22 (allS (Or.inr sz_b1) all0)
  have F28 : Fld Z T22.heap xa "com/example/zhengzi/zhengzi/CorrectionScore" "truePositives" "J" (.long u0) := F2.keep K22 (ninS ne_xa_b1 nin0)
  have F29 : Fld Z T22.heap xa "com/example/zhengzi/zhengzi/CorrectionScore" "falsePositives" "J" (.long u1) := F3.keep K22 (ninS ne_xa_b1 nin0)
  have F30 : Fld Z T22.heap xa "com/example/zhengzi/zhengzi/CorrectionScore" "falseNegatives" "J" (.long u2) := F4.keep K22 (ninS ne_xa_b1 nin0)
  have F31 : Fld Z T22.heap xa "com/example/zhengzi/zhengzi/CorrectionScore" "trueNegatives" "J" (.long u3) := F5.keep K22 (ninS ne_xa_b1 nin0)
  have F32 : Fld Z T22.heap xb "com/example/zhengzi/zhengzi/CorrectionScore" "truePositives" "J" (.long t0) := F6.keep K22 (ninS ne_xb_b1 nin0)
  have F33 : Fld Z T22.heap xb "com/example/zhengzi/zhengzi/CorrectionScore" "falsePositives" "J" (.long t1) := F7.keep K22 (ninS ne_xb_b1 nin0)
  have F34 : Fld Z T22.heap xb "com/example/zhengzi/zhengzi/CorrectionScore" "falseNegatives" "J" (.long t2) := F8.keep K22 (ninS ne_xb_b1 nin0)
  have F35 : Fld Z T22.heap xb "com/example/zhengzi/zhengzi/CorrectionScore" "trueNegatives" "J" (.long t3) := F9.keep K22 (ninS ne_xb_b1 nin0)
  have F36 : Exa Z T22.heap b1 "com/example/zhengzi/zhengzi/CorrectionScore" := A1.keep K22
  have Z22 : n0 ≤ T22.heap.size := Nat.le_trans Z1 K22.1
  have N22 := Fr.app N0 N22q
  obtain ⟨fs, hr, hrun, hended, hW, hsame⟩ := X22.leave (v := some (.ref b1)) (fun h => by rw [Bd.returns] at h; cases h)
  refine ⟨_, _, pre0 _ ?_, hrun, hended, _, _, rfl, ?_, ⟨_, rfl⟩, hW, hsame.mono (by decide) (by decide)⟩
  · show Steps p.tables e below (s₁.setTop (mkF m 0 #[.val (.ref xa), .val (.ref xb)] [])) _
    refine st1 _ ?_
    show Steps p.tables e below (T1.setTop (mkF m 3 #[.val (.ref xa), .val (.ref xb)] [(.ref b1)])) _
    refine XS.dup X1.here hx rfl (hb hby own_d12_3) rfl rfl ?_
    show Steps p.tables e below (T1.setTop (mkF m 4 #[.val (.ref xa), .val (.ref xb)] [(.ref b1), (.ref b1)])) _
    refine XS.aloadN X1.here hx rfl (hb hby own_d12_4) rfl rfl ?_
    show Steps p.tables e below (T1.setTop (mkF m 5 #[.val (.ref xa), .val (.ref xb)] [(.ref xa), (.ref b1), (.ref b1)])) _
    refine st14 _ ?_
    show Steps p.tables e below (T14.setTop (mkF m 8 #[.val (.ref xa), .val (.ref xb)] [(.long u0), (.ref b1), (.ref b1)])) _
    refine XS.aloadN X14.here hx rfl (hb hby own_d12_8) rfl rfl ?_
    show Steps p.tables e below (T14.setTop (mkF m 9 #[.val (.ref xa), .val (.ref xb)] [(.ref xb), (.long u0), (.ref b1), (.ref b1)])) _
    refine st15 _ ?_
    show Steps p.tables e below (T15.setTop (mkF m 12 #[.val (.ref xa), .val (.ref xb)] [(.long t0), (.long u0), (.ref b1), (.ref b1)])) _
    refine XS.ladd X15.here hx rfl (hb hby own_d12_12) rfl ?_
    show Steps p.tables e below (T15.setTop (mkF m 13 #[.val (.ref xa), .val (.ref xb)] [(.long (u0 + t0)), (.ref b1), (.ref b1)])) _
    refine XS.aloadN X15.here hx rfl (hb hby own_d12_13) rfl rfl ?_
    show Steps p.tables e below (T15.setTop (mkF m 14 #[.val (.ref xa), .val (.ref xb)] [(.ref xa), (.long (u0 + t0)), (.ref b1), (.ref b1)])) _
    refine st16 _ ?_
    show Steps p.tables e below (T16.setTop (mkF m 17 #[.val (.ref xa), .val (.ref xb)] [(.long u1), (.long (u0 + t0)), (.ref b1), (.ref b1)])) _
    refine XS.aloadN X16.here hx rfl (hb hby own_d12_17) rfl rfl ?_
    show Steps p.tables e below (T16.setTop (mkF m 18 #[.val (.ref xa), .val (.ref xb)] [(.ref xb), (.long u1), (.long (u0 + t0)), (.ref b1), (.ref b1)])) _
    refine st17 _ ?_
    show Steps p.tables e below (T17.setTop (mkF m 21 #[.val (.ref xa), .val (.ref xb)] [(.long t1), (.long u1), (.long (u0 + t0)), (.ref b1), (.ref b1)])) _
    refine XS.ladd X17.here hx rfl (hb hby own_d12_21) rfl ?_
    show Steps p.tables e below (T17.setTop (mkF m 22 #[.val (.ref xa), .val (.ref xb)] [(.long (u1 + t1)), (.long (u0 + t0)), (.ref b1), (.ref b1)])) _
    refine XS.aloadN X17.here hx rfl (hb hby own_d12_22) rfl rfl ?_
    show Steps p.tables e below (T17.setTop (mkF m 23 #[.val (.ref xa), .val (.ref xb)] [(.ref xa), (.long (u1 + t1)), (.long (u0 + t0)), (.ref b1), (.ref b1)])) _
    refine st18 _ ?_
    show Steps p.tables e below (T18.setTop (mkF m 26 #[.val (.ref xa), .val (.ref xb)] [(.long u2), (.long (u1 + t1)), (.long (u0 + t0)), (.ref b1), (.ref b1)])) _
    refine XS.aloadN X18.here hx rfl (hb hby own_d12_26) rfl rfl ?_
    show Steps p.tables e below (T18.setTop (mkF m 27 #[.val (.ref xa), .val (.ref xb)] [(.ref xb), (.long u2), (.long (u1 + t1)), (.long (u0 + t0)), (.ref b1), (.ref b1)])) _
    refine st19 _ ?_
    show Steps p.tables e below (T19.setTop (mkF m 30 #[.val (.ref xa), .val (.ref xb)] [(.long t2), (.long u2), (.long (u1 + t1)), (.long (u0 + t0)), (.ref b1), (.ref b1)])) _
    refine XS.ladd X19.here hx rfl (hb hby own_d12_30) rfl ?_
    show Steps p.tables e below (T19.setTop (mkF m 31 #[.val (.ref xa), .val (.ref xb)] [(.long (u2 + t2)), (.long (u1 + t1)), (.long (u0 + t0)), (.ref b1), (.ref b1)])) _
    refine XS.aloadN X19.here hx rfl (hb hby own_d12_31) rfl rfl ?_
    show Steps p.tables e below (T19.setTop (mkF m 32 #[.val (.ref xa), .val (.ref xb)] [(.ref xa), (.long (u2 + t2)), (.long (u1 + t1)), (.long (u0 + t0)), (.ref b1), (.ref b1)])) _
    refine st20 _ ?_
    show Steps p.tables e below (T20.setTop (mkF m 35 #[.val (.ref xa), .val (.ref xb)] [(.long u3), (.long (u2 + t2)), (.long (u1 + t1)), (.long (u0 + t0)), (.ref b1), (.ref b1)])) _
    refine XS.aloadN X20.here hx rfl (hb hby own_d12_35) rfl rfl ?_
    show Steps p.tables e below (T20.setTop (mkF m 36 #[.val (.ref xa), .val (.ref xb)] [(.ref xb), (.long u3), (.long (u2 + t2)), (.long (u1 + t1)), (.long (u0 + t0)), (.ref b1), (.ref b1)])) _
    refine st21 _ ?_
    show Steps p.tables e below (T21.setTop (mkF m 39 #[.val (.ref xa), .val (.ref xb)] [(.long t3), (.long u3), (.long (u2 + t2)), (.long (u1 + t1)), (.long (u0 + t0)), (.ref b1), (.ref b1)])) _
    refine XS.ladd X21.here hx rfl (hb hby own_d12_39) rfl ?_
    show Steps p.tables e below (T21.setTop (mkF m 40 #[.val (.ref xa), .val (.ref xb)] [(.long (u3 + t3)), (.long (u2 + t2)), (.long (u1 + t1)), (.long (u0 + t0)), (.ref b1), (.ref b1)])) _
    refine st22.trans ?_
    show Steps p.tables e below (T22.setTop (mkF m 43 #[.val (.ref xa), .val (.ref xb)] [(.ref b1)])) _
    exact retA X22 hx Bd.returns rfl rfl rfl (hb hby own_d12_43) hr
  · show own_Q12 Z xa xb u0 u1 u2 u3 t0 t1 t2 t3 h0 n0 _ T22.heap _
    exact ⟨b1, rfl, N22, KK22, sz_b1, F23.lt, F23, F24, F25, F26, F27⟩
theorem own_pd6 : parseMethodDescriptor "(Ljava/lang/Object;)Z" = some ⟨[(.object "java/lang/Object")], some .boolean⟩ := by decide +kernel
theorem own_d8_0 : decode prog_12_method_2_code 0 = .ok (.aload_n 0, 1) := by decide +kernel
theorem own_d8_1 : decode prog_12_method_2_code 1 = .ok (.aload_n 1, 1) := by decide +kernel
theorem own_d8_2 : decode prog_12_method_2_code 2 = .ok (.invokevirtual 22, 3) := by decide +kernel
theorem own_d8_5 : decode prog_12_method_2_code 5 = .ok (.ifCond .ne 40, 3) := by decide +kernel
theorem own_d8_8 : decode prog_12_method_2_code 8 = .ok (.aload_n 2, 1) := by decide +kernel
theorem own_d8_9 : decode prog_12_method_2_code 9 = .ok (.aload_n 1, 1) := by decide +kernel
theorem own_d8_10 : decode prog_12_method_2_code 10 = .ok (.invokevirtual 22, 3) := by decide +kernel
theorem own_d8_13 : decode prog_12_method_2_code 13 = .ok (.ifCond .eq 17, 3) := by decide +kernel
theorem own_d8_16 : decode prog_12_method_2_code 16 = .ok (.new 8, 3) := by decide +kernel
theorem own_d8_19 : decode prog_12_method_2_code 19 = .ok (.dup, 1) := by decide +kernel
theorem own_d8_20 : decode prog_12_method_2_code 20 = .ok (.lconst 1, 1) := by decide +kernel
theorem own_d8_21 : decode prog_12_method_2_code 21 = .ok (.lconst 0, 1) := by decide +kernel
theorem own_d8_22 : decode prog_12_method_2_code 22 = .ok (.lconst 0, 1) := by decide +kernel
theorem own_d8_23 : decode prog_12_method_2_code 23 = .ok (.lconst 0, 1) := by decide +kernel
theorem own_d8_24 : decode prog_12_method_2_code 24 = .ok (.invokespecial 28, 3) := by decide +kernel
theorem own_d8_27 : decode prog_12_method_2_code 27 = .ok (.goto 14, 3) := by decide +kernel
theorem own_d8_30 : decode prog_12_method_2_code 30 = .ok (.new 8, 3) := by decide +kernel
theorem own_d8_33 : decode prog_12_method_2_code 33 = .ok (.dup, 1) := by decide +kernel
theorem own_d8_34 : decode prog_12_method_2_code 34 = .ok (.lconst 0, 1) := by decide +kernel
theorem own_d8_35 : decode prog_12_method_2_code 35 = .ok (.lconst 0, 1) := by decide +kernel
theorem own_d8_36 : decode prog_12_method_2_code 36 = .ok (.lconst 1, 1) := by decide +kernel
theorem own_d8_37 : decode prog_12_method_2_code 37 = .ok (.lconst 0, 1) := by decide +kernel
theorem own_d8_38 : decode prog_12_method_2_code 38 = .ok (.invokespecial 28, 3) := by decide +kernel
theorem own_d8_41 : decode prog_12_method_2_code 41 = .ok (.astore_n 3, 1) := by decide +kernel
theorem own_d8_42 : decode prog_12_method_2_code 42 = .ok (.goto 37, 3) := by decide +kernel
theorem own_d8_45 : decode prog_12_method_2_code 45 = .ok (.aload_n 2, 1) := by decide +kernel
theorem own_d8_46 : decode prog_12_method_2_code 46 = .ok (.aload_n 0, 1) := by decide +kernel
theorem own_d8_47 : decode prog_12_method_2_code 47 = .ok (.invokevirtual 22, 3) := by decide +kernel
theorem own_d8_50 : decode prog_12_method_2_code 50 = .ok (.ifCond .eq 17, 3) := by decide +kernel
theorem own_d8_53 : decode prog_12_method_2_code 53 = .ok (.new 8, 3) := by decide +kernel
theorem own_d8_56 : decode prog_12_method_2_code 56 = .ok (.dup, 1) := by decide +kernel
theorem own_d8_57 : decode prog_12_method_2_code 57 = .ok (.lconst 0, 1) := by decide +kernel
theorem own_d8_58 : decode prog_12_method_2_code 58 = .ok (.lconst 0, 1) := by decide +kernel
theorem own_d8_59 : decode prog_12_method_2_code 59 = .ok (.lconst 0, 1) := by decide +kernel
theorem own_d8_60 : decode prog_12_method_2_code 60 = .ok (.lconst 1, 1) := by decide +kernel
theorem own_d8_61 : decode prog_12_method_2_code 61 = .ok (.invokespecial 28, 3) := by decide +kernel
theorem own_d8_64 : decode prog_12_method_2_code 64 = .ok (.goto 14, 3) := by decide +kernel
theorem own_d8_67 : decode prog_12_method_2_code 67 = .ok (.new 8, 3) := by decide +kernel
theorem own_d8_70 : decode prog_12_method_2_code 70 = .ok (.dup, 1) := by decide +kernel
theorem own_d8_71 : decode prog_12_method_2_code 71 = .ok (.lconst 0, 1) := by decide +kernel
theorem own_d8_72 : decode prog_12_method_2_code 72 = .ok (.lconst 1, 1) := by decide +kernel
theorem own_d8_73 : decode prog_12_method_2_code 73 = .ok (.lconst 0, 1) := by decide +kernel
theorem own_d8_74 : decode prog_12_method_2_code 74 = .ok (.lconst 0, 1) := by decide +kernel
theorem own_d8_75 : decode prog_12_method_2_code 75 = .ok (.invokespecial 28, 3) := by decide +kernel
theorem own_d8_78 : decode prog_12_method_2_code 78 = .ok (.astore_n 3, 1) := by decide +kernel
theorem own_d8_79 : decode prog_12_method_2_code 79 = .ok (.aload_n 3, 1) := by decide +kernel
theorem own_d8_80 : decode prog_12_method_2_code 80 = .ok (.areturn, 1) := by decide +kernel
def own_Q8 (Z : State) (xw : Addr) (xm : Addr) (xp : Addr) (xcs : Int32) (vw : Addr) (kw : ClassId) (zw : Int32) (vm : Addr) (km : ClassId) (zm : Int32) (vp : Addr) (kp : ClassId) (zp : Int32) (h0 : Heap) (n0 : Nat) (v : Option Value) (h : Heap) (L : List Loc) : Prop := ∃ (xn : Addr), v = some (.ref xn) ∧ Fr n0 L ∧ Keep h0 h [] ∧ h0.size ≤ xn ∧ xn < h.size ∧ Exa Z h xn "com/example/zhengzi/zhengzi/CorrectionScore" ∧ Fld Z h xn "com/example/zhengzi/zhengzi/CorrectionScore" "truePositives" "J" (.long (own_tp zw zm zp)) ∧ Fld Z h xn "com/example/zhengzi/zhengzi/CorrectionScore" "falsePositives" "J" (.long (own_fp zw zm zp)) ∧ Fld Z h xn "com/example/zhengzi/zhengzi/CorrectionScore" "falseNegatives" "J" (.long (own_fn zw zm zp)) ∧ Fld Z h xn "com/example/zhengzi/zhengzi/CorrectionScore" "trueNegatives" "J" (.long (own_tn zw zm zp))
theorem own_ef8 (m : MethodId) (xw : Addr) (xm : Addr) (xp : Addr) : entryFrame m #[(.ref xw), (.ref xm), (.ref xp)] 4 = mkF m 0 #[.val (.ref xw), .val (.ref xm), .val (.ref xp), .unset] [] := by first | (simp [entryFrame, mkF, argsToLocals, Value.category]; done) | rfl
set_option maxRecDepth 65536 in
set_option maxHeartbeats 40000000 in
theorem own_rm8 (l : Launch) (Z : State) (a0 : Array Value) (hw : ∀ d ∈ tables_1, d.before a0 Z = true) (ws : List Jvm.Cond) (xw : Addr) (xm : Addr) (xp : Addr) (xcs : Int32) (vw : Addr) (kw : ClassId) (zw : Int32) (vm : Addr) (km : ClassId) (zm : Int32) (vp : Addr) (kp : ClassId) (zp : Int32) (h0 : Heap) (n0 : Nat) (Z0 : n0 ≤ h0.size) (S_CS : Sta Z h0 "java/lang/String" "COMPACT_STRINGS" "Z" (.int xcs)) (E_xw : Exa Z h0 xw "java/lang/String") (F_value_xw : Fld Z h0 xw "java/lang/String" "value" "[B" (.ref vw)) (F_coder_xw : Fld Z h0 xw "java/lang/String" "coder" "B" (.int (0 : Int32))) (A_vw : Arv Z h0 vw kw .byte (1 : Int32) [(.int zw)] (.int (0 : Int32))) (E_xm : Exa Z h0 xm "java/lang/String") (F_value_xm : Fld Z h0 xm "java/lang/String" "value" "[B" (.ref vm)) (F_coder_xm : Fld Z h0 xm "java/lang/String" "coder" "B" (.int (0 : Int32))) (A_vm : Arv Z h0 vm km .byte (1 : Int32) [(.int zm)] (.int (0 : Int32))) (E_xp : Exa Z h0 xp "java/lang/String") (F_value_xp : Fld Z h0 xp "java/lang/String" "value" "[B" (.ref vp)) (F_coder_xp : Fld Z h0 xp "java/lang/String" "coder" "B" (.int (0 : Int32))) (A_vp : Arv Z h0 vp kp .byte (1 : Int32) [(.int zp)] (.int (0 : Int32))) (hcs : ¬ (xcs = (0 : Int32))) (n1 : xw ≠ xm) (n2 : xp ≠ xm) (n3 : xp ≠ xw) :
    MetFree l (⟨"com/example/zhengzi/zhengzi/CorrectionScore", "of", "(Ljava/lang/String;Ljava/lang/String;Ljava/lang/String;)Lcom/example/zhengzi/zhengzi/CorrectionScore;"⟩ : MethodName) (head1 (Jvm.Cond.code (⟨"com/example/zhengzi/zhengzi/CorrectionScore", "of", "(Ljava/lang/String;Ljava/lang/String;Ljava/lang/String;)Lcom/example/zhengzi/zhengzi/CorrectionScore;"⟩ : MethodName) prog_12_method_2_code 4 (some (.object "com/example/zhengzi/zhengzi/CorrectionScore")) :: ws) ({ frames := 3, cells := 1, slots := 4, locals := 45 } : Room)) (fun a U => a = #[(.ref xw), (.ref xm), (.ref xp)] ∧ Z.Warmed39 U.vm ∧ U.heap = h0) (fun _ _ _ _ _ => True) (fun _ U o U' => ∃ v L, o = .returned v ∧ own_Q8 Z xw xm xp xcs vw kw zw vm km zm vp kp zp h0 n0 v U'.heap L ∧ FrameEnd U o U' L ({ frames := 3, cells := 1, slots := 4, locals := 45 } : Room).cells ({ frames := 3, cells := 1, slots := 4, locals := 45 } : Room).slots) := by
  refine MetFree.of_bodySF (plainFor_of_name own_pn3) hisR ?_
  intro p e s m args below meth c s₁ Bd hml0 hP hK
  obtain ⟨rfl, hZ, hh⟩ := hP
  have hx := Bd.exec
  have hby := Bd.bytes
  have hml : c.maxLocals = 4 := hml0
  have hown : s.vm.findClass "com/example/zhengzi/zhengzi/CorrectionScore" = some m.cls := findClass_of_methodNamed Bd.named
  have hnm := (name_of_methodNamed Bd.named Bd.method).1
  have X0 : Stand p l e ({ frames := 3, cells := 1, slots := 4, locals := 45 } : Room) s m #[(.ref xw), (.ref xm), (.ref xp)] below meth c s₁ [] 0 0 := Stand.of_body Bd
  have e0 : s₁.heap = h0 := by rw [← hh, Bd.state]; rfl
  have N0 := Fr.nil n0
  have pre0 : ∀ t, Steps p.tables e below (s₁.setTop (mkF m 0 #[.val (.ref xw), .val (.ref xm), .val (.ref xp), .unset] [])) t → Steps p.tables e below (s₁.setTop (entryFrame m #[(.ref xw), (.ref xm), (.ref xp)] 4)) t := fun t k => castTop (own_ef8 m xw xm xp) k
  have K0 : Keep h0 h0 [] := Keep.refl _ _
  obtain ⟨cq1, kq1, q1a, q1b, q1c⟩ := isOf hZ e0 E_xw
  obtain ⟨_, _, ⟨T1, L1, k1, n1⟩, -, X1, ⟨Lc1, hQ1, l1, y1, z1⟩, st1⟩ := X0.virtualBack hx (y := (⟨"java/lang/String", "equals", "(Ljava/lang/Object;)Z"⟩ : MethodName)) (z := (⟨"java/lang/String", "equals", "(Ljava/lang/Object;)Z"⟩ : MethodName)) hown (mvT hZ (hw _ (List.mem_of_getElem? (i := 49) rfl))) (mvT hZ (hw _ (List.mem_of_getElem? (i := 50) rfl))) (notFace_of_selects (args := #[]) (mvT hZ (hw _ (List.mem_of_getElem? (i := 52) rfl)))) (mvT hZ (hw _ (List.mem_of_getElem? (i := 52) rfl))) (mvT hZ (hw _ (List.mem_of_getElem? (i := 51) rfl))) (by decide) (backOf (W := 0) (own_rm9 l Z a0 hw [] xw xm xcs vw kw zw vm km zm h0 n0 Z0 S_CS E_xw F_value_xw F_coder_xw A_vw E_xm F_value_xm F_coder_xm A_vm (hcs) (n1)) hZ (hw _ (List.mem_of_getElem? (i := 53) rfl)) (hw _ (List.mem_of_getElem? (i := 2) rfl)) (by decide) (by decide)) q1a q1c (g := (mkF m 2 #[.val (.ref xw), .val (.ref xm), .val (.ref xp), .unset] [(.ref xm), (.ref xw)])) rfl (by rw [hml]; rfl) (Steps.refl _) (argsL := [(.ref xm)]) (rest := []) (lenOf own_pd6 rfl) rfl (by show 2 * 0 + _ ≤ _; exact Nat.le_of_eq rfl) (hb hby own_d8_2) (fun _ _ => ⟨rfl, e0, (by decide : 0 + 0 ≤ _), (by decide : 0 + 0 ≤ _)⟩)
  dsimp only [Pt.U, Pt.locs, Pt.cells, Pt.slots] at X1 l1 y1 z1 st1 hQ1
  subst l1 y1 z1
  obtain ⟨rfl, N1q, eh1⟩ := hQ1
  have N1 := Fr.app N0 N1q
  have pre2 : ∀ t, Steps p.tables e below (T1.setTop (mkF m 5 #[.val (.ref xw), .val (.ref xm), .val (.ref xp), .unset] [(.int (own_se zw zm))])) t → Steps p.tables e below (s₁.setTop (entryFrame m #[(.ref xw), (.ref xm), (.ref xp)] 4)) t := by
    intro t k
    refine pre0 _ ?_
    show Steps p.tables e below (s₁.setTop (mkF m 0 #[.val (.ref xw), .val (.ref xm), .val (.ref xp), .unset] [])) _
    refine XS.aloadN X0.here hx rfl (hb hby own_d8_0) rfl rfl ?_
    show Steps p.tables e below (s₁.setTop (mkF m 1 #[.val (.ref xw), .val (.ref xm), .val (.ref xp), .unset] [(.ref xw)])) _
    refine XS.aloadN X0.here hx rfl (hb hby own_d8_1) rfl rfl ?_
    show Steps p.tables e below (s₁.setTop (mkF m 2 #[.val (.ref xw), .val (.ref xm), .val (.ref xp), .unset] [(.ref xm), (.ref xw)])) _
    refine st1.trans ?_
    exact k
  by_cases hc5 : (own_se zw zm) = (0 : Int32)
  · obtain ⟨cq3, kq3, q3a, q3b, q3c⟩ := isOf hZ eh1 E_xp
    obtain ⟨_, _, ⟨T3, L3, k3, n3⟩, -, X3, ⟨Lc3, hQ3, l3, y3, z3⟩, st3⟩ := X1.virtualBack hx (y := (⟨"java/lang/String", "equals", "(Ljava/lang/Object;)Z"⟩ : MethodName)) (z := (⟨"java/lang/String", "equals", "(Ljava/lang/Object;)Z"⟩ : MethodName)) hown (mvT hZ (hw _ (List.mem_of_getElem? (i := 49) rfl))) (mvT hZ (hw _ (List.mem_of_getElem? (i := 50) rfl))) (notFace_of_selects (args := #[]) (mvT hZ (hw _ (List.mem_of_getElem? (i := 52) rfl)))) (mvT hZ (hw _ (List.mem_of_getElem? (i := 52) rfl))) (mvT hZ (hw _ (List.mem_of_getElem? (i := 51) rfl))) (by decide) (backOf (W := 0) (own_rm9 l Z a0 hw [] xp xm xcs vp kp zp vm km zm h0 n0 Z0 S_CS E_xp F_value_xp F_coder_xp A_vp E_xm F_value_xm F_coder_xm A_vm (hcs) (n2)) hZ (hw _ (List.mem_of_getElem? (i := 53) rfl)) (hw _ (List.mem_of_getElem? (i := 2) rfl)) (by decide) (by decide)) q3a q3c (g := (mkF m 10 #[.val (.ref xw), .val (.ref xm), .val (.ref xp), .unset] [(.ref xm), (.ref xp)])) rfl (by rw [hml]; rfl) (Steps.refl _) (argsL := [(.ref xm)]) (rest := []) (lenOf own_pd6 rfl) rfl (by show 2 * 0 + _ ≤ _; exact Nat.le_of_eq rfl) (hb hby own_d8_10) (fun _ _ => ⟨rfl, eh1, (by decide : 0 + 0 ≤ _), (by decide : 0 + 0 ≤ _)⟩)
    dsimp only [Pt.U, Pt.locs, Pt.cells, Pt.slots] at X3 l3 y3 z3 st3 hQ3
    subst l3 y3 z3
    obtain ⟨rfl, N3q, eh3⟩ := hQ3
    have N3 := Fr.app N1 N3q
    have pre4 : ∀ t, Steps p.tables e below (T3.setTop (mkF m 13 #[.val (.ref xw), .val (.ref xm), .val (.ref xp), .unset] [(.int (own_se zp zm))])) t → Steps p.tables e below (s₁.setTop (entryFrame m #[(.ref xw), (.ref xm), (.ref xp)] 4)) t := by
      intro t k
      refine pre2 _ ?_
      show Steps p.tables e below (T1.setTop (mkF m 5 #[.val (.ref xw), .val (.ref xm), .val (.ref xp), .unset] [(.int (own_se zw zm))])) _
      refine XS.ifNo X1.here hx rfl (hb hby own_d8_5) rfl ((if0 _ _).trans (teq hc5).2) ?_
      show Steps p.tables e below (T1.setTop (mkF m 8 #[.val (.ref xw), .val (.ref xm), .val (.ref xp), .unset] [])) _
      refine XS.aloadN X1.here hx rfl (hb hby own_d8_8) rfl rfl ?_
      show Steps p.tables e below (T1.setTop (mkF m 9 #[.val (.ref xw), .val (.ref xm), .val (.ref xp), .unset] [(.ref xp)])) _
      refine XS.aloadN X1.here hx rfl (hb hby own_d8_9) rfl rfl ?_
      show Steps p.tables e below (T1.setTop (mkF m 10 #[.val (.ref xw), .val (.ref xm), .val (.ref xp), .unset] [(.ref xm), (.ref xp)])) _
      refine st3.trans ?_
      exact k
    by_cases hc13 : (own_se zp zm) = (0 : Int32)
    · obtain ⟨T5, h5, X5, e5, E5, A5, D5, -, st5⟩ := newO X3 hx hZ hown (hw _ (List.mem_of_getElem? (i := 57) rfl)) (hw _ (List.mem_of_getElem? (i := 27) rfl)) (hw _ (List.mem_of_getElem? (i := 28) rfl)) eh3 (g := (mkF m 30 #[.val (.ref xw), .val (.ref xm), .val (.ref xp), .unset] [])) rfl (hb hby own_d8_30) (by decide) (by decide)
      obtain ⟨b5, g5⟩ : ∃ z, z = h0.size := ⟨_, rfl⟩
      rw [← g5] at A5 D5 st5
      have ne_xw_b5 : xw ≠ b5 := Nat.ne_of_lt (Nat.lt_of_lt_of_le F_coder_xw.lt (Nat.le_of_eq g5.symm))
      have ne_vw_b5 : vw ≠ b5 := Nat.ne_of_lt (Nat.lt_of_lt_of_le A_vw.lt (Nat.le_of_eq g5.symm))
      have ne_xm_b5 : xm ≠ b5 := Nat.ne_of_lt (Nat.lt_of_lt_of_le F_coder_xm.lt (Nat.le_of_eq g5.symm))
      have ne_vm_b5 : vm ≠ b5 := Nat.ne_of_lt (Nat.lt_of_lt_of_le A_vm.lt (Nat.le_of_eq g5.symm))
      have ne_xp_b5 : xp ≠ b5 := Nat.ne_of_lt (Nat.lt_of_lt_of_le F_coder_xp.lt (Nat.le_of_eq g5.symm))
      have ne_vp_b5 : vp ≠ b5 := Nat.ne_of_lt (Nat.lt_of_lt_of_le A_vp.lt (Nat.le_of_eq g5.symm))
      have g_b5 : n0 ≤ b5 := Nat.le_trans Z0 (Nat.le_of_eq g5.symm)
      have sz_b5 : h0.size ≤ b5 := Nat.le_trans K0.1 (Nat.le_of_eq g5.symm)
      have K5 : Keep h0 h5 [] := K0.ext E5
      have F6 : Sta Z h5 "java/lang/String" "COMPACT_STRINGS" "Z" (.int xcs) := S_CS.ext E5
      have F7 : Exa Z h5 xw "java/lang/String" := E_xw.ext E5
      have F8 : Fld Z h5 xw "java/lang/String" "value" "[B" (.ref vw) := F_value_xw.ext E5
      have F9 : Fld Z h5 xw "java/lang/String" "coder" "B" (.int (0 : Int32)) := F_coder_xw.ext E5
      have F10 : Arv Z h5 vw kw .byte (1 : Int32) [(.int zw)] (.int (0 : Int32)) := A_vw.ext E5
      have F11 : Exa Z h5 xm "java/lang/String" := E_xm.ext E5
      have F12 : Fld Z h5 xm "java/lang/String" "value" "[B" (.ref vm) := F_value_xm.ext E5
      have F13 : Fld Z h5 xm "java/lang/String" "coder" "B" (.int (0 : Int32)) := F_coder_xm.ext E5
      have F14 : Arv Z h5 vm km .byte (1 : Int32) [(.int zm)] (.int (0 : Int32)) := A_vm.ext E5
      have F15 : Exa Z h5 xp "java/lang/String" := E_xp.ext E5
      have F16 : Fld Z h5 xp "java/lang/String" "value" "[B" (.ref vp) := F_value_xp.ext E5
      have F17 : Fld Z h5 xp "java/lang/String" "coder" "B" (.int (0 : Int32)) := F_coder_xp.ext E5
      have F18 : Arv Z h5 vp kp .byte (1 : Int32) [(.int zp)] (.int (0 : Int32)) := A_vp.ext E5
      have Z5 : n0 ≤ h5.size := Nat.le_trans Z0 E5.1
      have F19 : Fld Z h5 b5 "com/example/zhengzi/zhengzi/CorrectionScore" "truePositives" "J" (.long (0 : Int64)) := D5 (Or.inr (hw _ (List.mem_of_getElem? (i := 39) rfl))) (ty := .long) (by decide)
      have F20 : Fld Z h5 b5 "com/example/zhengzi/zhengzi/CorrectionScore" "falsePositives" "J" (.long (0 : Int64)) := D5 (Or.inr (hw _ (List.mem_of_getElem? (i := 41) rfl))) (ty := .long) (by decide)
      have F21 : Fld Z h5 b5 "com/example/zhengzi/zhengzi/CorrectionScore" "falseNegatives" "J" (.long (0 : Int64)) := D5 (Or.inr (hw _ (List.mem_of_getElem? (i := 43) rfl))) (ty := .long) (by decide)
      have F22 : Fld Z h5 b5 "com/example/zhengzi/zhengzi/CorrectionScore" "trueNegatives" "J" (.long (0 : Int64)) := D5 (Or.inr (hw _ (List.mem_of_getElem? (i := 45) rfl))) (ty := .long) (by decide)
      obtain ⟨_, _, ⟨T23, L23, k23, n23⟩, -, X23, ⟨Lc23, hQ23, l23, y23, z23⟩, st23⟩ := X5.specialBack hx (y := (⟨"com/example/zhengzi/zhengzi/CorrectionScore", "<init>", "(JJJJ)V"⟩ : MethodName)) rfl hown (mvT hZ (hw _ (List.mem_of_getElem? (i := 58) rfl))) (mvT hZ (hw _ (List.mem_of_getElem? (i := 30) rfl))) (mvT hZ (hw _ (List.mem_of_getElem? (i := 31) rfl))) (by decide) (backOf (W := 1) (own_rm6 l Z a0 hw [] b5 (0 : Int64) (0 : Int64) (1 : Int64) (0 : Int64) h5 n0 Z5 A5 F19 F20 F21 F22 g_b5) hZ (hw _ (List.mem_of_getElem? (i := 31) rfl)) (hw _ (List.mem_of_getElem? (i := 28) rfl)) (by decide) (by decide)) (g := (mkF m 38 #[.val (.ref xw), .val (.ref xm), .val (.ref xp), .unset] [(.long (0 : Int64)), (.long (1 : Int64)), (.long (0 : Int64)), (.long (0 : Int64)), (.ref b5), (.ref b5)])) rfl (by rw [hml]; rfl) (Steps.refl _) (a := b5) (argsL := [(.long (0 : Int64)), (.long (0 : Int64)), (.long (1 : Int64)), (.long (0 : Int64))]) (rest := [(.ref b5)]) (lenOf own_pd5 rfl) rfl (by show 2 * 0 + _ ≤ _; exact Nat.le_of_eq rfl) (hb hby own_d8_38) (fun _ _ => ⟨rfl, e5, (by decide : 1 + 0 ≤ _), (by decide : 4 + 0 ≤ _)⟩)
      dsimp only [Pt.U, Pt.locs, Pt.cells, Pt.slots] at X23 l23 y23 z23 st23 hQ23
      subst l23 y23 z23
      obtain ⟨rfl, N23q, K23q, F24, F25, F26, F27, F28⟩ := hQ23
      have K23 := K23q
      have KK23 : Keep h0 T23.heap [] := K5.trans K23 (allS (Or.inr sz_b5) all0)
      have F29 : Sta Z T23.heap "java/lang/String" "COMPACT_STRINGS" "Z" (.int xcs) := S_CS.ext (own_ext KK23)
      have F30 : Exa Z T23.heap xw "java/lang/String" := F7.keep K23
      have F31 : Fld Z T23.heap xw "java/lang/String" "value" "[B" (.ref vw) := F8.keep K23 (ninS ne_xw_b5 nin0)
      have F32 : Fld Z T23.heap xw "java/lang/String" "coder" "B" (.int (0 : Int32)) := F9.keep K23 (ninS ne_xw_b5 nin0)
      have F33 : Arv Z T23.heap vw kw .byte (1 : Int32) [(.int zw)] (.int (0 : Int32)) := F10.keep K23 (ninS ne_vw_b5 nin0)
      have F34 : Exa Z T23.heap xm "java/lang/String" := F11.keep K23
      have F35 : Fld Z T23.heap xm "java/lang/String" "value" "[B" (.ref vm) := F12.keep K23 (ninS ne_xm_b5 nin0)
      have F36 : Fld Z T23.heap xm "java/lang/String" "coder" "B" (.int (0 : Int32)) := F13.keep K23 (ninS ne_xm_b5 nin0)
      have F37 : Arv Z T23.heap vm km .byte (1 : Int32) [(.int zm)] (.int (0 : Int32)) := F14.keep K23 (ninS ne_vm_b5 nin0)
      have F38 : Exa Z T23.heap xp "java/lang/String" := F15.keep K23
      have F39 : Fld Z T23.heap xp "java/lang/String" "value" "[B" (.ref vp) := F16.keep K23 (ninS ne_xp_b5 nin0)
      have F40 : Fld Z T23.heap xp "java/lang/String" "coder" "B" (.int (0 : Int32)) := F17.keep K23 (ninS ne_xp_b5 nin0)
      have F41 : Arv Z T23.heap vp kp .byte (1 : Int32) [(.int zp)] (.int (0 : Int32)) := F18.keep K23 (ninS ne_vp_b5 nin0)
      have F42 : Exa Z T23.heap b5 "com/example/zhengzi/zhengzi/CorrectionScore" := A5.keep K23
      have Z23 : n0 ≤ T23.heap.size := Nat.le_trans Z5 K23.1
      have N23 := Fr.app N3 N23q
      obtain ⟨fs, hr, hrun, hended, hW, hsame⟩ := X23.leave (v := some (.ref b5)) (fun h => by rw [Bd.returns] at h; cases h)
      have ev43 : (own_tp zw zm zp) = (0 : Int64) := by
        simp [own_tp, own_fp, own_fn, own_tn, hc5, hc13]
      have ev44 : (own_fp zw zm zp) = (0 : Int64) := by
        simp [own_tp, own_fp, own_fn, own_tn, hc5, hc13]
      have ev45 : (own_fn zw zm zp) = (1 : Int64) := by
        simp [own_tp, own_fp, own_fn, own_tn, hc5, hc13]
      have ev46 : (own_tn zw zm zp) = (0 : Int64) := by
        simp [own_tp, own_fp, own_fn, own_tn, hc5, hc13]
      refine ⟨_, _, pre4 _ ?_, hrun, hended, _, _, rfl, ?_, ⟨_, rfl⟩, hW, hsame.mono (by decide) (by decide)⟩
      · show Steps p.tables e below (T3.setTop (mkF m 13 #[.val (.ref xw), .val (.ref xm), .val (.ref xp), .unset] [(.int (own_se zp zm))])) _
        refine XS.ifYes X3.here hx rfl (pc0 := 13) (pc' := 30) rfl (hb hby own_d8_13) rfl ((if0 _ _).trans (teq hc13).1) (by decide) (by decide) ?_
        show Steps p.tables e below (T3.setTop (mkF m 30 #[.val (.ref xw), .val (.ref xm), .val (.ref xp), .unset] [])) _
        refine st5 _ ?_
        show Steps p.tables e below (T5.setTop (mkF m 33 #[.val (.ref xw), .val (.ref xm), .val (.ref xp), .unset] [(.ref b5)])) _
        refine XS.dup X5.here hx rfl (hb hby own_d8_33) rfl rfl ?_
        show Steps p.tables e below (T5.setTop (mkF m 34 #[.val (.ref xw), .val (.ref xm), .val (.ref xp), .unset] [(.ref b5), (.ref b5)])) _
        refine XS.lconst X5.here hx rfl (hb hby own_d8_34) ?_
        show Steps p.tables e below (T5.setTop (mkF m 35 #[.val (.ref xw), .val (.ref xm), .val (.ref xp), .unset] [(.long (0 : Int64)), (.ref b5), (.ref b5)])) _
        refine XS.lconst X5.here hx rfl (hb hby own_d8_35) ?_
        show Steps p.tables e below (T5.setTop (mkF m 36 #[.val (.ref xw), .val (.ref xm), .val (.ref xp), .unset] [(.long (0 : Int64)), (.long (0 : Int64)), (.ref b5), (.ref b5)])) _
        refine XS.lconst X5.here hx rfl (hb hby own_d8_36) ?_
        show Steps p.tables e below (T5.setTop (mkF m 37 #[.val (.ref xw), .val (.ref xm), .val (.ref xp), .unset] [(.long (1 : Int64)), (.long (0 : Int64)), (.long (0 : Int64)), (.ref b5), (.ref b5)])) _
        refine XS.lconst X5.here hx rfl (hb hby own_d8_37) ?_
        show Steps p.tables e below (T5.setTop (mkF m 38 #[.val (.ref xw), .val (.ref xm), .val (.ref xp), .unset] [(.long (0 : Int64)), (.long (1 : Int64)), (.long (0 : Int64)), (.long (0 : Int64)), (.ref b5), (.ref b5)])) _
        refine st23.trans ?_
        show Steps p.tables e below (T23.setTop (mkF m 41 #[.val (.ref xw), .val (.ref xm), .val (.ref xp), .unset] [(.ref b5)])) _
        refine XS.astoreN X23.here hx rfl (hb hby own_d8_41) rfl rfl (l' := #[.val (.ref xw), .val (.ref xm), .val (.ref xp), .val (.ref b5)]) rfl ?_
        show Steps p.tables e below (T23.setTop (mkF m 42 #[.val (.ref xw), .val (.ref xm), .val (.ref xp), .val (.ref b5)] [])) _
        refine XS.goto X23.here hx rfl (pc0 := 42) (pc' := 79) rfl (hb hby own_d8_42) (by decide) (by decide) ?_
        show Steps p.tables e below (T23.setTop (mkF m 79 #[.val (.ref xw), .val (.ref xm), .val (.ref xp), .val (.ref b5)] [])) _
        refine XS.aloadN X23.here hx rfl (hb hby own_d8_79) rfl rfl ?_
        show Steps p.tables e below (T23.setTop (mkF m 80 #[.val (.ref xw), .val (.ref xm), .val (.ref xp), .val (.ref b5)] [(.ref b5)])) _
        exact retA X23 hx Bd.returns rfl rfl rfl (hb hby own_d8_80) hr
      · show own_Q8 Z xw xm xp xcs vw kw zw vm km zm vp kp zp h0 n0 _ T23.heap _
        exact ⟨b5, rfl, N23, KK23, sz_b5, F24.lt, F24, (by rw [ev43]; exact F25), (by rw [ev44]; exact F26), (by rw [ev45]; exact F27), (by rw [ev46]; exact F28)⟩
    · obtain ⟨T47, h47, X47, e47, E47, A47, D47, -, st47⟩ := newO X3 hx hZ hown (hw _ (List.mem_of_getElem? (i := 57) rfl)) (hw _ (List.mem_of_getElem? (i := 27) rfl)) (hw _ (List.mem_of_getElem? (i := 28) rfl)) eh3 (g := (mkF m 16 #[.val (.ref xw), .val (.ref xm), .val (.ref xp), .unset] [])) rfl (hb hby own_d8_16) (by decide) (by decide)
      obtain ⟨b47, g47⟩ : ∃ z, z = h0.size := ⟨_, rfl⟩
      rw [← g47] at A47 D47 st47
      have ne_xw_b47 : xw ≠ b47 := Nat.ne_of_lt (Nat.lt_of_lt_of_le F_coder_xw.lt (Nat.le_of_eq g47.symm))
      have ne_vw_b47 : vw ≠ b47 := Nat.ne_of_lt (Nat.lt_of_lt_of_le A_vw.lt (Nat.le_of_eq g47.symm))
      have ne_xm_b47 : xm ≠ b47 := Nat.ne_of_lt (Nat.lt_of_lt_of_le F_coder_xm.lt (Nat.le_of_eq g47.symm))
      have ne_vm_b47 : vm ≠ b47 := Nat.ne_of_lt (Nat.lt_of_lt_of_le A_vm.lt (Nat.le_of_eq g47.symm))
      have ne_xp_b47 : xp ≠ b47 := Nat.ne_of_lt (Nat.lt_of_lt_of_le F_coder_xp.lt (Nat.le_of_eq g47.symm))
      have ne_vp_b47 : vp ≠ b47 := Nat.ne_of_lt (Nat.lt_of_lt_of_le A_vp.lt (Nat.le_of_eq g47.symm))
      have g_b47 : n0 ≤ b47 := Nat.le_trans Z0 (Nat.le_of_eq g47.symm)
      have sz_b47 : h0.size ≤ b47 := Nat.le_trans K0.1 (Nat.le_of_eq g47.symm)
      have K47 : Keep h0 h47 [] := K0.ext E47
      have F48 : Sta Z h47 "java/lang/String" "COMPACT_STRINGS" "Z" (.int xcs) := S_CS.ext E47
      have F49 : Exa Z h47 xw "java/lang/String" := E_xw.ext E47
      have F50 : Fld Z h47 xw "java/lang/String" "value" "[B" (.ref vw) := F_value_xw.ext E47
      have F51 : Fld Z h47 xw "java/lang/String" "coder" "B" (.int (0 : Int32)) := F_coder_xw.ext E47
      have F52 : Arv Z h47 vw kw .byte (1 : Int32) [(.int zw)] (.int (0 : Int32)) := A_vw.ext E47
      have F53 : Exa Z h47 xm "java/lang/String" := E_xm.ext E47
      have F54 : Fld Z h47 xm "java/lang/String" "value" "[B" (.ref vm) := F_value_xm.ext E47
      have F55 : Fld Z h47 xm "java/lang/String" "coder" "B" (.int (0 : Int32)) := F_coder_xm.ext E47
      have F56 : Arv Z h47 vm km .byte (1 : Int32) [(.int zm)] (.int (0 : Int32)) := A_vm.ext E47
      have F57 : Exa Z h47 xp "java/lang/String" := E_xp.ext E47
      have F58 : Fld Z h47 xp "java/lang/String" "value" "[B" (.ref vp) := F_value_xp.ext E47
      have F59 : Fld Z h47 xp "java/lang/String" "coder" "B" (.int (0 : Int32)) := F_coder_xp.ext E47
      have F60 : Arv Z h47 vp kp .byte (1 : Int32) [(.int zp)] (.int (0 : Int32)) := A_vp.ext E47
      have Z47 : n0 ≤ h47.size := Nat.le_trans Z0 E47.1
      have F61 : Fld Z h47 b47 "com/example/zhengzi/zhengzi/CorrectionScore" "truePositives" "J" (.long (0 : Int64)) := D47 (Or.inr (hw _ (List.mem_of_getElem? (i := 39) rfl))) (ty := .long) (by decide)
      have F62 : Fld Z h47 b47 "com/example/zhengzi/zhengzi/CorrectionScore" "falsePositives" "J" (.long (0 : Int64)) := D47 (Or.inr (hw _ (List.mem_of_getElem? (i := 41) rfl))) (ty := .long) (by decide)
      have F63 : Fld Z h47 b47 "com/example/zhengzi/zhengzi/CorrectionScore" "falseNegatives" "J" (.long (0 : Int64)) := D47 (Or.inr (hw _ (List.mem_of_getElem? (i := 43) rfl))) (ty := .long) (by decide)
      have F64 : Fld Z h47 b47 "com/example/zhengzi/zhengzi/CorrectionScore" "trueNegatives" "J" (.long (0 : Int64)) := D47 (Or.inr (hw _ (List.mem_of_getElem? (i := 45) rfl))) (ty := .long) (by decide)
      obtain ⟨_, _, ⟨T65, L65, k65, n65⟩, -, X65, ⟨Lc65, hQ65, l65, y65, z65⟩, st65⟩ := X47.specialBack hx (y := (⟨"com/example/zhengzi/zhengzi/CorrectionScore", "<init>", "(JJJJ)V"⟩ : MethodName)) rfl hown (mvT hZ (hw _ (List.mem_of_getElem? (i := 58) rfl))) (mvT hZ (hw _ (List.mem_of_getElem? (i := 30) rfl))) (mvT hZ (hw _ (List.mem_of_getElem? (i := 31) rfl))) (by decide) (backOf (W := 1) (own_rm6 l Z a0 hw [] b47 (1 : Int64) (0 : Int64) (0 : Int64) (0 : Int64) h47 n0 Z47 A47 F61 F62 F63 F64 g_b47) hZ (hw _ (List.mem_of_getElem? (i := 31) rfl)) (hw _ (List.mem_of_getElem? (i := 28) rfl)) (by decide) (by decide)) (g := (mkF m 24 #[.val (.ref xw), .val (.ref xm), .val (.ref xp), .unset] [(.long (0 : Int64)), (.long (0 : Int64)), (.long (0 : Int64)), (.long (1 : Int64)), (.ref b47), (.ref b47)])) rfl (by rw [hml]; rfl) (Steps.refl _) (a := b47) (argsL := [(.long (1 : Int64)), (.long (0 : Int64)), (.long (0 : Int64)), (.long (0 : Int64))]) (rest := [(.ref b47)]) (lenOf own_pd5 rfl) rfl (by show 2 * 0 + _ ≤ _; exact Nat.le_of_eq rfl) (hb hby own_d8_24) (fun _ _ => ⟨rfl, e47, (by decide : 1 + 0 ≤ _), (by decide : 4 + 0 ≤ _)⟩)
      dsimp only [Pt.U, Pt.locs, Pt.cells, Pt.slots] at X65 l65 y65 z65 st65 hQ65
      subst l65 y65 z65
      obtain ⟨rfl, N65q, K65q, F66, F67, F68, F69, F70⟩ := hQ65
      have K65 := K65q
      have KK65 : Keep h0 T65.heap [] := K47.trans K65 (allS (Or.inr sz_b47) all0)
      have F71 : Sta Z T65.heap "java/lang/String" "COMPACT_STRINGS" "Z" (.int xcs) := S_CS.ext (own_ext KK65)
      have F72 : Exa Z T65.heap xw "java/lang/String" := F49.keep K65
      have F73 : Fld Z T65.heap xw "java/lang/String" "value" "[B" (.ref vw) := F50.keep K65 (ninS ne_xw_b47 nin0)
      have F74 : Fld Z T65.heap xw "java/lang/String" "coder" "B" (.int (0 : Int32)) := F51.keep K65 (ninS ne_xw_b47 nin0)
      have F75 : Arv Z T65.heap vw kw .byte (1 : Int32) [(.int zw)] (.int (0 : Int32)) := F52.keep K65 (ninS ne_vw_b47 nin0)
      have F76 : Exa Z T65.heap xm "java/lang/String" := F53.keep K65
      have F77 : Fld Z T65.heap xm "java/lang/String" "value" "[B" (.ref vm) := F54.keep K65 (ninS ne_xm_b47 nin0)
      have F78 : Fld Z T65.heap xm "java/lang/String" "coder" "B" (.int (0 : Int32)) := F55.keep K65 (ninS ne_xm_b47 nin0)
      have F79 : Arv Z T65.heap vm km .byte (1 : Int32) [(.int zm)] (.int (0 : Int32)) := F56.keep K65 (ninS ne_vm_b47 nin0)
      have F80 : Exa Z T65.heap xp "java/lang/String" := F57.keep K65
      have F81 : Fld Z T65.heap xp "java/lang/String" "value" "[B" (.ref vp) := F58.keep K65 (ninS ne_xp_b47 nin0)
      have F82 : Fld Z T65.heap xp "java/lang/String" "coder" "B" (.int (0 : Int32)) := F59.keep K65 (ninS ne_xp_b47 nin0)
      have F83 : Arv Z T65.heap vp kp .byte (1 : Int32) [(.int zp)] (.int (0 : Int32)) := F60.keep K65 (ninS ne_vp_b47 nin0)
      have F84 : Exa Z T65.heap b47 "com/example/zhengzi/zhengzi/CorrectionScore" := A47.keep K65
      have Z65 : n0 ≤ T65.heap.size := Nat.le_trans Z47 K65.1
      have N65 := Fr.app N3 N65q
      obtain ⟨fs, hr, hrun, hended, hW, hsame⟩ := X65.leave (v := some (.ref b47)) (fun h => by rw [Bd.returns] at h; cases h)
      have ev85 : (own_tp zw zm zp) = (1 : Int64) := by
        simp [own_tp, own_fp, own_fn, own_tn, hc5, hc13]
      have ev86 : (own_fp zw zm zp) = (0 : Int64) := by
        simp [own_tp, own_fp, own_fn, own_tn, hc5, hc13]
      have ev87 : (own_fn zw zm zp) = (0 : Int64) := by
        simp [own_tp, own_fp, own_fn, own_tn, hc5, hc13]
      have ev88 : (own_tn zw zm zp) = (0 : Int64) := by
        simp [own_tp, own_fp, own_fn, own_tn, hc5, hc13]
      refine ⟨_, _, pre4 _ ?_, hrun, hended, _, _, rfl, ?_, ⟨_, rfl⟩, hW, hsame.mono (by decide) (by decide)⟩
      · show Steps p.tables e below (T3.setTop (mkF m 13 #[.val (.ref xw), .val (.ref xm), .val (.ref xp), .unset] [(.int (own_se zp zm))])) _
        refine XS.ifNo X3.here hx rfl (hb hby own_d8_13) rfl ((if0 _ _).trans (feq hc13).1) ?_
        show Steps p.tables e below (T3.setTop (mkF m 16 #[.val (.ref xw), .val (.ref xm), .val (.ref xp), .unset] [])) _
        refine st47 _ ?_
        show Steps p.tables e below (T47.setTop (mkF m 19 #[.val (.ref xw), .val (.ref xm), .val (.ref xp), .unset] [(.ref b47)])) _
        refine XS.dup X47.here hx rfl (hb hby own_d8_19) rfl rfl ?_
        show Steps p.tables e below (T47.setTop (mkF m 20 #[.val (.ref xw), .val (.ref xm), .val (.ref xp), .unset] [(.ref b47), (.ref b47)])) _
        refine XS.lconst X47.here hx rfl (hb hby own_d8_20) ?_
        show Steps p.tables e below (T47.setTop (mkF m 21 #[.val (.ref xw), .val (.ref xm), .val (.ref xp), .unset] [(.long (1 : Int64)), (.ref b47), (.ref b47)])) _
        refine XS.lconst X47.here hx rfl (hb hby own_d8_21) ?_
        show Steps p.tables e below (T47.setTop (mkF m 22 #[.val (.ref xw), .val (.ref xm), .val (.ref xp), .unset] [(.long (0 : Int64)), (.long (1 : Int64)), (.ref b47), (.ref b47)])) _
        refine XS.lconst X47.here hx rfl (hb hby own_d8_22) ?_
        show Steps p.tables e below (T47.setTop (mkF m 23 #[.val (.ref xw), .val (.ref xm), .val (.ref xp), .unset] [(.long (0 : Int64)), (.long (0 : Int64)), (.long (1 : Int64)), (.ref b47), (.ref b47)])) _
        refine XS.lconst X47.here hx rfl (hb hby own_d8_23) ?_
        show Steps p.tables e below (T47.setTop (mkF m 24 #[.val (.ref xw), .val (.ref xm), .val (.ref xp), .unset] [(.long (0 : Int64)), (.long (0 : Int64)), (.long (0 : Int64)), (.long (1 : Int64)), (.ref b47), (.ref b47)])) _
        refine st65.trans ?_
        show Steps p.tables e below (T65.setTop (mkF m 27 #[.val (.ref xw), .val (.ref xm), .val (.ref xp), .unset] [(.ref b47)])) _
        refine XS.goto X65.here hx rfl (pc0 := 27) (pc' := 41) rfl (hb hby own_d8_27) (by decide) (by decide) ?_
        show Steps p.tables e below (T65.setTop (mkF m 41 #[.val (.ref xw), .val (.ref xm), .val (.ref xp), .unset] [(.ref b47)])) _
        refine XS.astoreN X65.here hx rfl (hb hby own_d8_41) rfl rfl (l' := #[.val (.ref xw), .val (.ref xm), .val (.ref xp), .val (.ref b47)]) rfl ?_
        show Steps p.tables e below (T65.setTop (mkF m 42 #[.val (.ref xw), .val (.ref xm), .val (.ref xp), .val (.ref b47)] [])) _
        refine XS.goto X65.here hx rfl (pc0 := 42) (pc' := 79) rfl (hb hby own_d8_42) (by decide) (by decide) ?_
        show Steps p.tables e below (T65.setTop (mkF m 79 #[.val (.ref xw), .val (.ref xm), .val (.ref xp), .val (.ref b47)] [])) _
        refine XS.aloadN X65.here hx rfl (hb hby own_d8_79) rfl rfl ?_
        show Steps p.tables e below (T65.setTop (mkF m 80 #[.val (.ref xw), .val (.ref xm), .val (.ref xp), .val (.ref b47)] [(.ref b47)])) _
        exact retA X65 hx Bd.returns rfl rfl rfl (hb hby own_d8_80) hr
      · show own_Q8 Z xw xm xp xcs vw kw zw vm km zm vp kp zp h0 n0 _ T65.heap _
        exact ⟨b47, rfl, N65, KK65, sz_b47, F66.lt, F66, (by rw [ev85]; exact F67), (by rw [ev86]; exact F68), (by rw [ev87]; exact F69), (by rw [ev88]; exact F70)⟩
  · obtain ⟨cq89, kq89, q89a, q89b, q89c⟩ := isOf hZ eh1 E_xp
    obtain ⟨_, _, ⟨T89, L89, k89, n89⟩, -, X89, ⟨Lc89, hQ89, l89, y89, z89⟩, st89⟩ := X1.virtualBack hx (y := (⟨"java/lang/String", "equals", "(Ljava/lang/Object;)Z"⟩ : MethodName)) (z := (⟨"java/lang/String", "equals", "(Ljava/lang/Object;)Z"⟩ : MethodName)) hown (mvT hZ (hw _ (List.mem_of_getElem? (i := 49) rfl))) (mvT hZ (hw _ (List.mem_of_getElem? (i := 50) rfl))) (notFace_of_selects (args := #[]) (mvT hZ (hw _ (List.mem_of_getElem? (i := 52) rfl)))) (mvT hZ (hw _ (List.mem_of_getElem? (i := 52) rfl))) (mvT hZ (hw _ (List.mem_of_getElem? (i := 51) rfl))) (by decide) (backOf (W := 0) (own_rm9 l Z a0 hw [] xp xw xcs vp kp zp vw kw zw h0 n0 Z0 S_CS E_xp F_value_xp F_coder_xp A_vp E_xw F_value_xw F_coder_xw A_vw (hcs) (n3)) hZ (hw _ (List.mem_of_getElem? (i := 53) rfl)) (hw _ (List.mem_of_getElem? (i := 2) rfl)) (by decide) (by decide)) q89a q89c (g := (mkF m 47 #[.val (.ref xw), .val (.ref xm), .val (.ref xp), .unset] [(.ref xw), (.ref xp)])) rfl (by rw [hml]; rfl) (Steps.refl _) (argsL := [(.ref xw)]) (rest := []) (lenOf own_pd6 rfl) rfl (by show 2 * 0 + _ ≤ _; exact Nat.le_of_eq rfl) (hb hby own_d8_47) (fun _ _ => ⟨rfl, eh1, (by decide : 0 + 0 ≤ _), (by decide : 0 + 0 ≤ _)⟩)
    dsimp only [Pt.U, Pt.locs, Pt.cells, Pt.slots] at X89 l89 y89 z89 st89 hQ89
    subst l89 y89 z89
    obtain ⟨rfl, N89q, eh89⟩ := hQ89
    have N89 := Fr.app N1 N89q
    have pre90 : ∀ t, Steps p.tables e below (T89.setTop (mkF m 50 #[.val (.ref xw), .val (.ref xm), .val (.ref xp), .unset] [(.int (own_se zp zw))])) t → Steps p.tables e below (s₁.setTop (entryFrame m #[(.ref xw), (.ref xm), (.ref xp)] 4)) t := by
      intro t k
      refine pre2 _ ?_
      show Steps p.tables e below (T1.setTop (mkF m 5 #[.val (.ref xw), .val (.ref xm), .val (.ref xp), .unset] [(.int (own_se zw zm))])) _
      refine XS.ifYes X1.here hx rfl (pc0 := 5) (pc' := 45) rfl (hb hby own_d8_5) rfl ((if0 _ _).trans (feq hc5).2) (by decide) (by decide) ?_
      show Steps p.tables e below (T1.setTop (mkF m 45 #[.val (.ref xw), .val (.ref xm), .val (.ref xp), .unset] [])) _
      refine XS.aloadN X1.here hx rfl (hb hby own_d8_45) rfl rfl ?_
      show Steps p.tables e below (T1.setTop (mkF m 46 #[.val (.ref xw), .val (.ref xm), .val (.ref xp), .unset] [(.ref xp)])) _
      refine XS.aloadN X1.here hx rfl (hb hby own_d8_46) rfl rfl ?_
      show Steps p.tables e below (T1.setTop (mkF m 47 #[.val (.ref xw), .val (.ref xm), .val (.ref xp), .unset] [(.ref xw), (.ref xp)])) _
      refine st89.trans ?_
      exact k
    by_cases hc50 : (own_se zp zw) = (0 : Int32)
    · obtain ⟨T91, h91, X91, e91, E91, A91, D91, -, st91⟩ := newO X89 hx hZ hown (hw _ (List.mem_of_getElem? (i := 57) rfl)) (hw _ (List.mem_of_getElem? (i := 27) rfl)) (hw _ (List.mem_of_getElem? (i := 28) rfl)) eh89 (g := (mkF m 67 #[.val (.ref xw), .val (.ref xm), .val (.ref xp), .unset] [])) rfl (hb hby own_d8_67) (by decide) (by decide)
      obtain ⟨b91, g91⟩ : ∃ z, z = h0.size := ⟨_, rfl⟩
      rw [← g91] at A91 D91 st91
      have ne_xw_b91 : xw ≠ b91 := Nat.ne_of_lt (Nat.lt_of_lt_of_le F_coder_xw.lt (Nat.le_of_eq g91.symm))
      have ne_vw_b91 : vw ≠ b91 := Nat.ne_of_lt (Nat.lt_of_lt_of_le A_vw.lt (Nat.le_of_eq g91.symm))
      have ne_xm_b91 : xm ≠ b91 := Nat.ne_of_lt (Nat.lt_of_lt_of_le F_coder_xm.lt (Nat.le_of_eq g91.symm))
      have ne_vm_b91 : vm ≠ b91 := Nat.ne_of_lt (Nat.lt_of_lt_of_le A_vm.lt (Nat.le_of_eq g91.symm))
      have ne_xp_b91 : xp ≠ b91 := Nat.ne_of_lt (Nat.lt_of_lt_of_le F_coder_xp.lt (Nat.le_of_eq g91.symm))
      have ne_vp_b91 : vp ≠ b91 := Nat.ne_of_lt (Nat.lt_of_lt_of_le A_vp.lt (Nat.le_of_eq g91.symm))
      have g_b91 : n0 ≤ b91 := Nat.le_trans Z0 (Nat.le_of_eq g91.symm)
      have sz_b91 : h0.size ≤ b91 := Nat.le_trans K0.1 (Nat.le_of_eq g91.symm)
      have K91 : Keep h0 h91 [] := K0.ext E91
      have F92 : Sta Z h91 "java/lang/String" "COMPACT_STRINGS" "Z" (.int xcs) := S_CS.ext E91
      have F93 : Exa Z h91 xw "java/lang/String" := E_xw.ext E91
      have F94 : Fld Z h91 xw "java/lang/String" "value" "[B" (.ref vw) := F_value_xw.ext E91
      have F95 : Fld Z h91 xw "java/lang/String" "coder" "B" (.int (0 : Int32)) := F_coder_xw.ext E91
      have F96 : Arv Z h91 vw kw .byte (1 : Int32) [(.int zw)] (.int (0 : Int32)) := A_vw.ext E91
      have F97 : Exa Z h91 xm "java/lang/String" := E_xm.ext E91
      have F98 : Fld Z h91 xm "java/lang/String" "value" "[B" (.ref vm) := F_value_xm.ext E91
      have F99 : Fld Z h91 xm "java/lang/String" "coder" "B" (.int (0 : Int32)) := F_coder_xm.ext E91
      have F100 : Arv Z h91 vm km .byte (1 : Int32) [(.int zm)] (.int (0 : Int32)) := A_vm.ext E91
      have F101 : Exa Z h91 xp "java/lang/String" := E_xp.ext E91
      have F102 : Fld Z h91 xp "java/lang/String" "value" "[B" (.ref vp) := F_value_xp.ext E91
      have F103 : Fld Z h91 xp "java/lang/String" "coder" "B" (.int (0 : Int32)) := F_coder_xp.ext E91
      have F104 : Arv Z h91 vp kp .byte (1 : Int32) [(.int zp)] (.int (0 : Int32)) := A_vp.ext E91
      have Z91 : n0 ≤ h91.size := Nat.le_trans Z0 E91.1
      have F105 : Fld Z h91 b91 "com/example/zhengzi/zhengzi/CorrectionScore" "truePositives" "J" (.long (0 : Int64)) := D91 (Or.inr (hw _ (List.mem_of_getElem? (i := 39) rfl))) (ty := .long) (by decide)
      have F106 : Fld Z h91 b91 "com/example/zhengzi/zhengzi/CorrectionScore" "falsePositives" "J" (.long (0 : Int64)) := D91 (Or.inr (hw _ (List.mem_of_getElem? (i := 41) rfl))) (ty := .long) (by decide)
      have F107 : Fld Z h91 b91 "com/example/zhengzi/zhengzi/CorrectionScore" "falseNegatives" "J" (.long (0 : Int64)) := D91 (Or.inr (hw _ (List.mem_of_getElem? (i := 43) rfl))) (ty := .long) (by decide)
      have F108 : Fld Z h91 b91 "com/example/zhengzi/zhengzi/CorrectionScore" "trueNegatives" "J" (.long (0 : Int64)) := D91 (Or.inr (hw _ (List.mem_of_getElem? (i := 45) rfl))) (ty := .long) (by decide)
      obtain ⟨_, _, ⟨T109, L109, k109, n109⟩, -, X109, ⟨Lc109, hQ109, l109, y109, z109⟩, st109⟩ := X91.specialBack hx (y := (⟨"com/example/zhengzi/zhengzi/CorrectionScore", "<init>", "(JJJJ)V"⟩ : MethodName)) rfl hown (mvT hZ (hw _ (List.mem_of_getElem? (i := 58) rfl))) (mvT hZ (hw _ (List.mem_of_getElem? (i := 30) rfl))) (mvT hZ (hw _ (List.mem_of_getElem? (i := 31) rfl))) (by decide) (backOf (W := 1) (own_rm6 l Z a0 hw [] b91 (0 : Int64) (1 : Int64) (0 : Int64) (0 : Int64) h91 n0 Z91 A91 F105 F106 F107 F108 g_b91) hZ (hw _ (List.mem_of_getElem? (i := 31) rfl)) (hw _ (List.mem_of_getElem? (i := 28) rfl)) (by decide) (by decide)) (g := (mkF m 75 #[.val (.ref xw), .val (.ref xm), .val (.ref xp), .unset] [(.long (0 : Int64)), (.long (0 : Int64)), (.long (1 : Int64)), (.long (0 : Int64)), (.ref b91), (.ref b91)])) rfl (by rw [hml]; rfl) (Steps.refl _) (a := b91) (argsL := [(.long (0 : Int64)), (.long (1 : Int64)), (.long (0 : Int64)), (.long (0 : Int64))]) (rest := [(.ref b91)]) (lenOf own_pd5 rfl) rfl (by show 2 * 0 + _ ≤ _; exact Nat.le_of_eq rfl) (hb hby own_d8_75) (fun _ _ => ⟨rfl, e91, (by decide : 1 + 0 ≤ _), (by decide : 4 + 0 ≤ _)⟩)
      dsimp only [Pt.U, Pt.locs, Pt.cells, Pt.slots] at X109 l109 y109 z109 st109 hQ109
      subst l109 y109 z109
      obtain ⟨rfl, N109q, K109q, F110, F111, F112, F113, F114⟩ := hQ109
      have K109 := K109q
      have KK109 : Keep h0 T109.heap [] := K91.trans K109 (allS (Or.inr sz_b91) all0)
      have F115 : Sta Z T109.heap "java/lang/String" "COMPACT_STRINGS" "Z" (.int xcs) := S_CS.ext (own_ext KK109)
      have F116 : Exa Z T109.heap xw "java/lang/String" := F93.keep K109
      have F117 : Fld Z T109.heap xw "java/lang/String" "value" "[B" (.ref vw) := F94.keep K109 (ninS ne_xw_b91 nin0)
      have F118 : Fld Z T109.heap xw "java/lang/String" "coder" "B" (.int (0 : Int32)) := F95.keep K109 (ninS ne_xw_b91 nin0)
      have F119 : Arv Z T109.heap vw kw .byte (1 : Int32) [(.int zw)] (.int (0 : Int32)) := F96.keep K109 (ninS ne_vw_b91 nin0)
      have F120 : Exa Z T109.heap xm "java/lang/String" := F97.keep K109
      have F121 : Fld Z T109.heap xm "java/lang/String" "value" "[B" (.ref vm) := F98.keep K109 (ninS ne_xm_b91 nin0)
      have F122 : Fld Z T109.heap xm "java/lang/String" "coder" "B" (.int (0 : Int32)) := F99.keep K109 (ninS ne_xm_b91 nin0)
      have F123 : Arv Z T109.heap vm km .byte (1 : Int32) [(.int zm)] (.int (0 : Int32)) := F100.keep K109 (ninS ne_vm_b91 nin0)
      have F124 : Exa Z T109.heap xp "java/lang/String" := F101.keep K109
      have F125 : Fld Z T109.heap xp "java/lang/String" "value" "[B" (.ref vp) := F102.keep K109 (ninS ne_xp_b91 nin0)
      have F126 : Fld Z T109.heap xp "java/lang/String" "coder" "B" (.int (0 : Int32)) := F103.keep K109 (ninS ne_xp_b91 nin0)
      have F127 : Arv Z T109.heap vp kp .byte (1 : Int32) [(.int zp)] (.int (0 : Int32)) := F104.keep K109 (ninS ne_vp_b91 nin0)
      have F128 : Exa Z T109.heap b91 "com/example/zhengzi/zhengzi/CorrectionScore" := A91.keep K109
      have Z109 : n0 ≤ T109.heap.size := Nat.le_trans Z91 K109.1
      have N109 := Fr.app N89 N109q
      obtain ⟨fs, hr, hrun, hended, hW, hsame⟩ := X109.leave (v := some (.ref b91)) (fun h => by rw [Bd.returns] at h; cases h)
      have ev129 : (own_tp zw zm zp) = (0 : Int64) := by
        simp [own_tp, own_fp, own_fn, own_tn, hc5, hc50]
      have ev130 : (own_fp zw zm zp) = (1 : Int64) := by
        simp [own_tp, own_fp, own_fn, own_tn, hc5, hc50]
      have ev131 : (own_fn zw zm zp) = (0 : Int64) := by
        simp [own_tp, own_fp, own_fn, own_tn, hc5, hc50]
      have ev132 : (own_tn zw zm zp) = (0 : Int64) := by
        simp [own_tp, own_fp, own_fn, own_tn, hc5, hc50]
      refine ⟨_, _, pre90 _ ?_, hrun, hended, _, _, rfl, ?_, ⟨_, rfl⟩, hW, hsame.mono (by decide) (by decide)⟩
      · show Steps p.tables e below (T89.setTop (mkF m 50 #[.val (.ref xw), .val (.ref xm), .val (.ref xp), .unset] [(.int (own_se zp zw))])) _
        refine XS.ifYes X89.here hx rfl (pc0 := 50) (pc' := 67) rfl (hb hby own_d8_50) rfl ((if0 _ _).trans (teq hc50).1) (by decide) (by decide) ?_
        show Steps p.tables e below (T89.setTop (mkF m 67 #[.val (.ref xw), .val (.ref xm), .val (.ref xp), .unset] [])) _
        refine st91 _ ?_
        show Steps p.tables e below (T91.setTop (mkF m 70 #[.val (.ref xw), .val (.ref xm), .val (.ref xp), .unset] [(.ref b91)])) _
        refine XS.dup X91.here hx rfl (hb hby own_d8_70) rfl rfl ?_
        show Steps p.tables e below (T91.setTop (mkF m 71 #[.val (.ref xw), .val (.ref xm), .val (.ref xp), .unset] [(.ref b91), (.ref b91)])) _
        refine XS.lconst X91.here hx rfl (hb hby own_d8_71) ?_
        show Steps p.tables e below (T91.setTop (mkF m 72 #[.val (.ref xw), .val (.ref xm), .val (.ref xp), .unset] [(.long (0 : Int64)), (.ref b91), (.ref b91)])) _
        refine XS.lconst X91.here hx rfl (hb hby own_d8_72) ?_
        show Steps p.tables e below (T91.setTop (mkF m 73 #[.val (.ref xw), .val (.ref xm), .val (.ref xp), .unset] [(.long (1 : Int64)), (.long (0 : Int64)), (.ref b91), (.ref b91)])) _
        refine XS.lconst X91.here hx rfl (hb hby own_d8_73) ?_
        show Steps p.tables e below (T91.setTop (mkF m 74 #[.val (.ref xw), .val (.ref xm), .val (.ref xp), .unset] [(.long (0 : Int64)), (.long (1 : Int64)), (.long (0 : Int64)), (.ref b91), (.ref b91)])) _
        refine XS.lconst X91.here hx rfl (hb hby own_d8_74) ?_
        show Steps p.tables e below (T91.setTop (mkF m 75 #[.val (.ref xw), .val (.ref xm), .val (.ref xp), .unset] [(.long (0 : Int64)), (.long (0 : Int64)), (.long (1 : Int64)), (.long (0 : Int64)), (.ref b91), (.ref b91)])) _
        refine st109.trans ?_
        show Steps p.tables e below (T109.setTop (mkF m 78 #[.val (.ref xw), .val (.ref xm), .val (.ref xp), .unset] [(.ref b91)])) _
        refine XS.astoreN X109.here hx rfl (hb hby own_d8_78) rfl rfl (l' := #[.val (.ref xw), .val (.ref xm), .val (.ref xp), .val (.ref b91)]) rfl ?_
        show Steps p.tables e below (T109.setTop (mkF m 79 #[.val (.ref xw), .val (.ref xm), .val (.ref xp), .val (.ref b91)] [])) _
        refine XS.aloadN X109.here hx rfl (hb hby own_d8_79) rfl rfl ?_
        show Steps p.tables e below (T109.setTop (mkF m 80 #[.val (.ref xw), .val (.ref xm), .val (.ref xp), .val (.ref b91)] [(.ref b91)])) _
        exact retA X109 hx Bd.returns rfl rfl rfl (hb hby own_d8_80) hr
      · show own_Q8 Z xw xm xp xcs vw kw zw vm km zm vp kp zp h0 n0 _ T109.heap _
        exact ⟨b91, rfl, N109, KK109, sz_b91, F110.lt, F110, (by rw [ev129]; exact F111), (by rw [ev130]; exact F112), (by rw [ev131]; exact F113), (by rw [ev132]; exact F114)⟩
    · obtain ⟨T133, h133, X133, e133, E133, A133, D133, -, st133⟩ := newO X89 hx hZ hown (hw _ (List.mem_of_getElem? (i := 57) rfl)) (hw _ (List.mem_of_getElem? (i := 27) rfl)) (hw _ (List.mem_of_getElem? (i := 28) rfl)) eh89 (g := (mkF m 53 #[.val (.ref xw), .val (.ref xm), .val (.ref xp), .unset] [])) rfl (hb hby own_d8_53) (by decide) (by decide)
      obtain ⟨b133, g133⟩ : ∃ z, z = h0.size := ⟨_, rfl⟩
      rw [← g133] at A133 D133 st133
      have ne_xw_b133 : xw ≠ b133 := Nat.ne_of_lt (Nat.lt_of_lt_of_le F_coder_xw.lt (Nat.le_of_eq g133.symm))
      have ne_vw_b133 : vw ≠ b133 := Nat.ne_of_lt (Nat.lt_of_lt_of_le A_vw.lt (Nat.le_of_eq g133.symm))
      have ne_xm_b133 : xm ≠ b133 := Nat.ne_of_lt (Nat.lt_of_lt_of_le F_coder_xm.lt (Nat.le_of_eq g133.symm))
      have ne_vm_b133 : vm ≠ b133 := Nat.ne_of_lt (Nat.lt_of_lt_of_le A_vm.lt (Nat.le_of_eq g133.symm))
      have ne_xp_b133 : xp ≠ b133 := Nat.ne_of_lt (Nat.lt_of_lt_of_le F_coder_xp.lt (Nat.le_of_eq g133.symm))
      have ne_vp_b133 : vp ≠ b133 := Nat.ne_of_lt (Nat.lt_of_lt_of_le A_vp.lt (Nat.le_of_eq g133.symm))
      have g_b133 : n0 ≤ b133 := Nat.le_trans Z0 (Nat.le_of_eq g133.symm)
      have sz_b133 : h0.size ≤ b133 := Nat.le_trans K0.1 (Nat.le_of_eq g133.symm)
      have K133 : Keep h0 h133 [] := K0.ext E133
      have F134 : Sta Z h133 "java/lang/String" "COMPACT_STRINGS" "Z" (.int xcs) := S_CS.ext E133
      have F135 : Exa Z h133 xw "java/lang/String" := E_xw.ext E133
      have F136 : Fld Z h133 xw "java/lang/String" "value" "[B" (.ref vw) := F_value_xw.ext E133
      have F137 : Fld Z h133 xw "java/lang/String" "coder" "B" (.int (0 : Int32)) := F_coder_xw.ext E133
      have F138 : Arv Z h133 vw kw .byte (1 : Int32) [(.int zw)] (.int (0 : Int32)) := A_vw.ext E133
      have F139 : Exa Z h133 xm "java/lang/String" := E_xm.ext E133
      have F140 : Fld Z h133 xm "java/lang/String" "value" "[B" (.ref vm) := F_value_xm.ext E133
      have F141 : Fld Z h133 xm "java/lang/String" "coder" "B" (.int (0 : Int32)) := F_coder_xm.ext E133
      have F142 : Arv Z h133 vm km .byte (1 : Int32) [(.int zm)] (.int (0 : Int32)) := A_vm.ext E133
      have F143 : Exa Z h133 xp "java/lang/String" := E_xp.ext E133
      have F144 : Fld Z h133 xp "java/lang/String" "value" "[B" (.ref vp) := F_value_xp.ext E133
      have F145 : Fld Z h133 xp "java/lang/String" "coder" "B" (.int (0 : Int32)) := F_coder_xp.ext E133
      have F146 : Arv Z h133 vp kp .byte (1 : Int32) [(.int zp)] (.int (0 : Int32)) := A_vp.ext E133
      have Z133 : n0 ≤ h133.size := Nat.le_trans Z0 E133.1
      have F147 : Fld Z h133 b133 "com/example/zhengzi/zhengzi/CorrectionScore" "truePositives" "J" (.long (0 : Int64)) := D133 (Or.inr (hw _ (List.mem_of_getElem? (i := 39) rfl))) (ty := .long) (by decide)
      have F148 : Fld Z h133 b133 "com/example/zhengzi/zhengzi/CorrectionScore" "falsePositives" "J" (.long (0 : Int64)) := D133 (Or.inr (hw _ (List.mem_of_getElem? (i := 41) rfl))) (ty := .long) (by decide)
      have F149 : Fld Z h133 b133 "com/example/zhengzi/zhengzi/CorrectionScore" "falseNegatives" "J" (.long (0 : Int64)) := D133 (Or.inr (hw _ (List.mem_of_getElem? (i := 43) rfl))) (ty := .long) (by decide)
      have F150 : Fld Z h133 b133 "com/example/zhengzi/zhengzi/CorrectionScore" "trueNegatives" "J" (.long (0 : Int64)) := D133 (Or.inr (hw _ (List.mem_of_getElem? (i := 45) rfl))) (ty := .long) (by decide)
      obtain ⟨_, _, ⟨T151, L151, k151, n151⟩, -, X151, ⟨Lc151, hQ151, l151, y151, z151⟩, st151⟩ := X133.specialBack hx (y := (⟨"com/example/zhengzi/zhengzi/CorrectionScore", "<init>", "(JJJJ)V"⟩ : MethodName)) rfl hown (mvT hZ (hw _ (List.mem_of_getElem? (i := 58) rfl))) (mvT hZ (hw _ (List.mem_of_getElem? (i := 30) rfl))) (mvT hZ (hw _ (List.mem_of_getElem? (i := 31) rfl))) (by decide) (backOf (W := 1) (own_rm6 l Z a0 hw [] b133 (0 : Int64) (0 : Int64) (0 : Int64) (1 : Int64) h133 n0 Z133 A133 F147 F148 F149 F150 g_b133) hZ (hw _ (List.mem_of_getElem? (i := 31) rfl)) (hw _ (List.mem_of_getElem? (i := 28) rfl)) (by decide) (by decide)) (g := (mkF m 61 #[.val (.ref xw), .val (.ref xm), .val (.ref xp), .unset] [(.long (1 : Int64)), (.long (0 : Int64)), (.long (0 : Int64)), (.long (0 : Int64)), (.ref b133), (.ref b133)])) rfl (by rw [hml]; rfl) (Steps.refl _) (a := b133) (argsL := [(.long (0 : Int64)), (.long (0 : Int64)), (.long (0 : Int64)), (.long (1 : Int64))]) (rest := [(.ref b133)]) (lenOf own_pd5 rfl) rfl (by show 2 * 0 + _ ≤ _; exact Nat.le_of_eq rfl) (hb hby own_d8_61) (fun _ _ => ⟨rfl, e133, (by decide : 1 + 0 ≤ _), (by decide : 4 + 0 ≤ _)⟩)
      dsimp only [Pt.U, Pt.locs, Pt.cells, Pt.slots] at X151 l151 y151 z151 st151 hQ151
      subst l151 y151 z151
      obtain ⟨rfl, N151q, K151q, F152, F153, F154, F155, F156⟩ := hQ151
      have K151 := K151q
      have KK151 : Keep h0 T151.heap [] := K133.trans K151 (allS (Or.inr sz_b133) all0)
      have F157 : Sta Z T151.heap "java/lang/String" "COMPACT_STRINGS" "Z" (.int xcs) := S_CS.ext (own_ext KK151)
      have F158 : Exa Z T151.heap xw "java/lang/String" := F135.keep K151
      have F159 : Fld Z T151.heap xw "java/lang/String" "value" "[B" (.ref vw) := F136.keep K151 (ninS ne_xw_b133 nin0)
      have F160 : Fld Z T151.heap xw "java/lang/String" "coder" "B" (.int (0 : Int32)) := F137.keep K151 (ninS ne_xw_b133 nin0)
      have F161 : Arv Z T151.heap vw kw .byte (1 : Int32) [(.int zw)] (.int (0 : Int32)) := F138.keep K151 (ninS ne_vw_b133 nin0)
      have F162 : Exa Z T151.heap xm "java/lang/String" := F139.keep K151
      have F163 : Fld Z T151.heap xm "java/lang/String" "value" "[B" (.ref vm) := F140.keep K151 (ninS ne_xm_b133 nin0)
      have F164 : Fld Z T151.heap xm "java/lang/String" "coder" "B" (.int (0 : Int32)) := F141.keep K151 (ninS ne_xm_b133 nin0)
      have F165 : Arv Z T151.heap vm km .byte (1 : Int32) [(.int zm)] (.int (0 : Int32)) := F142.keep K151 (ninS ne_vm_b133 nin0)
      have F166 : Exa Z T151.heap xp "java/lang/String" := F143.keep K151
      have F167 : Fld Z T151.heap xp "java/lang/String" "value" "[B" (.ref vp) := F144.keep K151 (ninS ne_xp_b133 nin0)
      have F168 : Fld Z T151.heap xp "java/lang/String" "coder" "B" (.int (0 : Int32)) := F145.keep K151 (ninS ne_xp_b133 nin0)
      have F169 : Arv Z T151.heap vp kp .byte (1 : Int32) [(.int zp)] (.int (0 : Int32)) := F146.keep K151 (ninS ne_vp_b133 nin0)
      have F170 : Exa Z T151.heap b133 "com/example/zhengzi/zhengzi/CorrectionScore" := A133.keep K151
      have Z151 : n0 ≤ T151.heap.size := Nat.le_trans Z133 K151.1
      have N151 := Fr.app N89 N151q
      obtain ⟨fs, hr, hrun, hended, hW, hsame⟩ := X151.leave (v := some (.ref b133)) (fun h => by rw [Bd.returns] at h; cases h)
      have ev171 : (own_tp zw zm zp) = (0 : Int64) := by
        simp [own_tp, own_fp, own_fn, own_tn, hc5, hc50]
      have ev172 : (own_fp zw zm zp) = (0 : Int64) := by
        simp [own_tp, own_fp, own_fn, own_tn, hc5, hc50]
      have ev173 : (own_fn zw zm zp) = (0 : Int64) := by
        simp [own_tp, own_fp, own_fn, own_tn, hc5, hc50]
      have ev174 : (own_tn zw zm zp) = (1 : Int64) := by
        simp [own_tp, own_fp, own_fn, own_tn, hc5, hc50]
      refine ⟨_, _, pre90 _ ?_, hrun, hended, _, _, rfl, ?_, ⟨_, rfl⟩, hW, hsame.mono (by decide) (by decide)⟩
      · show Steps p.tables e below (T89.setTop (mkF m 50 #[.val (.ref xw), .val (.ref xm), .val (.ref xp), .unset] [(.int (own_se zp zw))])) _
        refine XS.ifNo X89.here hx rfl (hb hby own_d8_50) rfl ((if0 _ _).trans (feq hc50).1) ?_
        show Steps p.tables e below (T89.setTop (mkF m 53 #[.val (.ref xw), .val (.ref xm), .val (.ref xp), .unset] [])) _
        refine st133 _ ?_
        show Steps p.tables e below (T133.setTop (mkF m 56 #[.val (.ref xw), .val (.ref xm), .val (.ref xp), .unset] [(.ref b133)])) _
        refine XS.dup X133.here hx rfl (hb hby own_d8_56) rfl rfl ?_
        show Steps p.tables e below (T133.setTop (mkF m 57 #[.val (.ref xw), .val (.ref xm), .val (.ref xp), .unset] [(.ref b133), (.ref b133)])) _
        refine XS.lconst X133.here hx rfl (hb hby own_d8_57) ?_
        show Steps p.tables e below (T133.setTop (mkF m 58 #[.val (.ref xw), .val (.ref xm), .val (.ref xp), .unset] [(.long (0 : Int64)), (.ref b133), (.ref b133)])) _
        refine XS.lconst X133.here hx rfl (hb hby own_d8_58) ?_
        show Steps p.tables e below (T133.setTop (mkF m 59 #[.val (.ref xw), .val (.ref xm), .val (.ref xp), .unset] [(.long (0 : Int64)), (.long (0 : Int64)), (.ref b133), (.ref b133)])) _
        refine XS.lconst X133.here hx rfl (hb hby own_d8_59) ?_
        show Steps p.tables e below (T133.setTop (mkF m 60 #[.val (.ref xw), .val (.ref xm), .val (.ref xp), .unset] [(.long (0 : Int64)), (.long (0 : Int64)), (.long (0 : Int64)), (.ref b133), (.ref b133)])) _
        refine XS.lconst X133.here hx rfl (hb hby own_d8_60) ?_
        show Steps p.tables e below (T133.setTop (mkF m 61 #[.val (.ref xw), .val (.ref xm), .val (.ref xp), .unset] [(.long (1 : Int64)), (.long (0 : Int64)), (.long (0 : Int64)), (.long (0 : Int64)), (.ref b133), (.ref b133)])) _
        refine st151.trans ?_
        show Steps p.tables e below (T151.setTop (mkF m 64 #[.val (.ref xw), .val (.ref xm), .val (.ref xp), .unset] [(.ref b133)])) _
        refine XS.goto X151.here hx rfl (pc0 := 64) (pc' := 78) rfl (hb hby own_d8_64) (by decide) (by decide) ?_
        show Steps p.tables e below (T151.setTop (mkF m 78 #[.val (.ref xw), .val (.ref xm), .val (.ref xp), .unset] [(.ref b133)])) _
        refine XS.astoreN X151.here hx rfl (hb hby own_d8_78) rfl rfl (l' := #[.val (.ref xw), .val (.ref xm), .val (.ref xp), .val (.ref b133)]) rfl ?_
        show Steps p.tables e below (T151.setTop (mkF m 79 #[.val (.ref xw), .val (.ref xm), .val (.ref xp), .val (.ref b133)] [])) _
        refine XS.aloadN X151.here hx rfl (hb hby own_d8_79) rfl rfl ?_
        show Steps p.tables e below (T151.setTop (mkF m 80 #[.val (.ref xw), .val (.ref xm), .val (.ref xp), .val (.ref b133)] [(.ref b133)])) _
        exact retA X151 hx Bd.returns rfl rfl rfl (hb hby own_d8_80) hr
      · show own_Q8 Z xw xm xp xcs vw kw zw vm km zm vp kp zp h0 n0 _ T151.heap _
        exact ⟨b133, rfl, N151, KK151, sz_b133, F152.lt, F152, (by rw [ev171]; exact F153), (by rw [ev172]; exact F154), (by rw [ev173]; exact F155), (by rw [ev174]; exact F156)⟩
theorem own_pn4 : plainName "com/example/zhengzi/zhengzi/CorrectionScorePairsPinLaw" = true := by first | (simp [plainName, overriddenIn]; done) | decide +kernel
theorem own_pd7 : parseMethodDescriptor "(C)Ljava/lang/String;" = some ⟨[.char], some (.object "java/lang/String")⟩ := by decide +kernel
theorem own_pd8 : parseMethodDescriptor "(Ljava/lang/String;Ljava/lang/String;Ljava/lang/String;)Lcom/example/zhengzi/zhengzi/CorrectionScore;" = some ⟨[(.object "java/lang/String"), (.object "java/lang/String"), (.object "java/lang/String")], some (.object "com/example/zhengzi/zhengzi/CorrectionScore")⟩ := by decide +kernel
theorem own_pd9 : parseMethodDescriptor "()J" = some ⟨[], some .long⟩ := by decide +kernel
theorem own_pd10 : parseMethodDescriptor "(Lcom/example/zhengzi/zhengzi/CorrectionScore;)Lcom/example/zhengzi/zhengzi/CorrectionScore;" = some ⟨[(.object "com/example/zhengzi/zhengzi/CorrectionScore")], some (.object "com/example/zhengzi/zhengzi/CorrectionScore")⟩ := by decide +kernel
def own_Q0 (Z : State) (y1 : Int64) (y2 : Int64) (y3 : Int64) (y4 : Int64) (y5 : Int32) (y6 : Int32) (xcs : Int32) (h0 : Heap) (n0 : Nat) (v : Option Value) (h : Heap) (L : List Loc) : Prop := v = some (.int (1 : Int32)) ∧ Fr n0 L
theorem own_ef0 (m : MethodId) (y1 : Int64) (y2 : Int64) (y3 : Int64) (y4 : Int64) (y5 : Int32) (y6 : Int32) : entryFrame m #[(.long y1), (.long y2), (.long y3), (.long y4), (.int y5), (.int y6)] maxLocals = mkF m 0 #[.val (.long y1), .second, .val (.long y2), .second, .val (.long y3), .second, .val (.long y4), .second, .val (.int y5), .val (.int y6), .unset, .unset, .unset, .unset, .unset, .unset, .unset, .unset, .unset, .unset, .unset] [] := by first | (simp [entryFrame, mkF, argsToLocals, Value.category, maxLocals]; done) | rfl
set_option maxRecDepth 65536 in
set_option maxHeartbeats 40000000 in
theorem own_rm0 (l : Launch) (Z : State) (a0 : Array Value) (hw : ∀ d ∈ tables_1, d.before a0 Z = true) (ws : List Jvm.Cond) (y1 : Int64) (y2 : Int64) (y3 : Int64) (y4 : Int64) (y5 : Int32) (y6 : Int32) (xcs : Int32) (h0 : Heap) (n0 : Nat) (Z0 : n0 ≤ h0.size) (S_CS : Sta Z h0 "java/lang/String" "COMPACT_STRINGS" "Z" (.int xcs)) (hcs : ¬ (xcs = (0 : Int32))) :
    MetFree l x (head1 (Jvm.Cond.code x code maxLocals ret :: ws) room_1) (fun a U => a = #[(.long y1), (.long y2), (.long y3), (.long y4), (.int y5), (.int y6)] ∧ Z.Warmed39 U.vm ∧ U.heap = h0) (fun _ _ _ _ _ => True) (fun _ U o U' => ∃ v L, o = .returned v ∧ own_Q0 Z y1 y2 y3 y4 y5 y6 xcs h0 n0 v U'.heap L ∧ FrameEnd U o U' L room_1.cells room_1.slots) := by
  refine MetFree.of_bodySF (plainFor_of_name own_pn4) hisR ?_
  intro p e s m args below meth c s₁ Bd hml0 hP hK
  obtain ⟨rfl, hZ, hh⟩ := hP
  have hx := Bd.exec
  have hby := Bd.bytes
  have hml : c.maxLocals = 21 := hml0
  have hown : s.vm.findClass "com/example/zhengzi/zhengzi/CorrectionScorePairsPinLaw" = some m.cls := findClass_of_methodNamed Bd.named
  have hnm := (name_of_methodNamed Bd.named Bd.method).1
  have X0 : Stand p l e room_1 s m #[(.long y1), (.long y2), (.long y3), (.long y4), (.int y5), (.int y6)] below meth c s₁ [] 0 0 := Stand.of_body Bd
  have e0 : s₁.heap = h0 := by rw [← hh, Bd.state]; rfl
  have N0 := Fr.nil n0
  have pre0 : ∀ t, Steps p.tables e below (s₁.setTop (mkF m 0 #[.val (.long y1), .second, .val (.long y2), .second, .val (.long y3), .second, .val (.long y4), .second, .val (.int y5), .val (.int y6), .unset, .unset, .unset, .unset, .unset, .unset, .unset, .unset, .unset, .unset, .unset] [])) t → Steps p.tables e below (s₁.setTop (entryFrame m #[(.long y1), (.long y2), (.long y3), (.long y4), (.int y5), (.int y6)] maxLocals)) t := fun t k => castTop (own_ef0 m y1 y2 y3 y4 y5 y6) k
  have K0 : Keep h0 h0 [] := Keep.refl _ _
  obtain ⟨v7, hv7⟩ : ∃ w : Int32, w = ((y5 &&& (255 : Int32)).toUInt32.toUInt16.toUInt32.toInt32) := ⟨_, rfl⟩
  have pre1 : ∀ t, Steps p.tables e below (s₁.setTop (mkF m 9 #[.val (.long y1), .second, .val (.long y2), .second, .val (.long y3), .second, .val (.long y4), .second, .val (.int y5), .val (.int y6), .val (.int v7), .unset, .unset, .unset, .unset, .unset, .unset, .unset, .unset, .unset, .unset] [])) t → Steps p.tables e below (s₁.setTop (entryFrame m #[(.long y1), (.long y2), (.long y3), (.long y4), (.int y5), (.int y6)] maxLocals)) t := by
    intro t k
    rw [hv7] at k
    refine pre0 _ ?_
    show Steps p.tables e below (s₁.setTop (mkF m 0 #[.val (.long y1), .second, .val (.long y2), .second, .val (.long y3), .second, .val (.long y4), .second, .val (.int y5), .val (.int y6), .unset, .unset, .unset, .unset, .unset, .unset, .unset, .unset, .unset, .unset, .unset] [])) _
    refine XS.iload X0.here hx rfl (hb hby at_0) rfl ?_
    show Steps p.tables e below (s₁.setTop (mkF m 2 #[.val (.long y1), .second, .val (.long y2), .second, .val (.long y3), .second, .val (.long y4), .second, .val (.int y5), .val (.int y6), .unset, .unset, .unset, .unset, .unset, .unset, .unset, .unset, .unset, .unset, .unset] [(.int y5)])) _
    refine XS.sipush X0.here hx rfl (hb hby at_2) ?_
    show Steps p.tables e below (s₁.setTop (mkF m 5 #[.val (.long y1), .second, .val (.long y2), .second, .val (.long y3), .second, .val (.long y4), .second, .val (.int y5), .val (.int y6), .unset, .unset, .unset, .unset, .unset, .unset, .unset, .unset, .unset, .unset, .unset] [(.int (255 : Int32)), (.int y5)])) _
    refine XS.iand X0.here hx rfl (hb hby at_5) rfl ?_
    show Steps p.tables e below (s₁.setTop (mkF m 6 #[.val (.long y1), .second, .val (.long y2), .second, .val (.long y3), .second, .val (.long y4), .second, .val (.int y5), .val (.int y6), .unset, .unset, .unset, .unset, .unset, .unset, .unset, .unset, .unset, .unset, .unset] [(.int (y5 &&& (255 : Int32)))])) _
    refine XS.i2c X0.here hx rfl (hb hby at_6) rfl ?_
    show Steps p.tables e below (s₁.setTop (mkF m 7 #[.val (.long y1), .second, .val (.long y2), .second, .val (.long y3), .second, .val (.long y4), .second, .val (.int y5), .val (.int y6), .unset, .unset, .unset, .unset, .unset, .unset, .unset, .unset, .unset, .unset, .unset] [(.int ((y5 &&& (255 : Int32)).toUInt32.toUInt16.toUInt32.toInt32))])) _
    refine XS.istore X0.here hx rfl (hb hby at_7) rfl (l' := #[.val (.long y1), .second, .val (.long y2), .second, .val (.long y3), .second, .val (.long y4), .second, .val (.int y5), .val (.int y6), .val (.int ((y5 &&& (255 : Int32)).toUInt32.toUInt16.toUInt32.toInt32)), .unset, .unset, .unset, .unset, .unset, .unset, .unset, .unset, .unset, .unset]) rfl ?_
    exact k
  have pre2 : ∀ t, Steps p.tables e below (s₁.setTop (mkF m 13 #[.val (.long y1), .second, .val (.long y2), .second, .val (.long y3), .second, .val (.long y4), .second, .val (.int y5), .val (.int y6), .val (.int v7), .unset, .unset, .unset, .unset, .unset, .unset, .unset, .unset, .unset, .unset] [(.int (y6 &&& (1 : Int32)))])) t → Steps p.tables e below (s₁.setTop (entryFrame m #[(.long y1), (.long y2), (.long y3), (.long y4), (.int y5), (.int y6)] maxLocals)) t := by
    intro t k
    refine pre1 _ ?_
    show Steps p.tables e below (s₁.setTop (mkF m 9 #[.val (.long y1), .second, .val (.long y2), .second, .val (.long y3), .second, .val (.long y4), .second, .val (.int y5), .val (.int y6), .val (.int v7), .unset, .unset, .unset, .unset, .unset, .unset, .unset, .unset, .unset, .unset] [])) _
    refine XS.iload X0.here hx rfl (hb hby at_9) rfl ?_
    show Steps p.tables e below (s₁.setTop (mkF m 11 #[.val (.long y1), .second, .val (.long y2), .second, .val (.long y3), .second, .val (.long y4), .second, .val (.int y5), .val (.int y6), .val (.int v7), .unset, .unset, .unset, .unset, .unset, .unset, .unset, .unset, .unset, .unset] [(.int y6)])) _
    refine XS.iconst X0.here hx rfl (hb hby at_11) ?_
    show Steps p.tables e below (s₁.setTop (mkF m 12 #[.val (.long y1), .second, .val (.long y2), .second, .val (.long y3), .second, .val (.long y4), .second, .val (.int y5), .val (.int y6), .val (.int v7), .unset, .unset, .unset, .unset, .unset, .unset, .unset, .unset, .unset, .unset] [(.int (1 : Int32)), (.int y6)])) _
    refine XS.iand X0.here hx rfl (hb hby at_12) rfl ?_
    exact k
  obtain ⟨xm, hxm⟩ : ∃ w : Int32, w = (if (y6 &&& (1 : Int32)) = (0 : Int32) then ((((y6.toUInt32 >>> ((8 : Int32) &&& 31).toUInt32).toInt32) &&& (255 : Int32)).toUInt32.toUInt16.toUInt32.toInt32) else v7) := ⟨_, rfl⟩
  have pre3 : ∀ t, Steps p.tables e below (s₁.setTop (mkF m 31 #[.val (.long y1), .second, .val (.long y2), .second, .val (.long y3), .second, .val (.long y4), .second, .val (.int y5), .val (.int y6), .val (.int v7), .unset, .unset, .unset, .unset, .unset, .unset, .unset, .unset, .unset, .unset] [(.int xm)])) t → Steps p.tables e below (s₁.setTop (entryFrame m #[(.long y1), (.long y2), (.long y3), (.long y4), (.int y5), (.int y6)] maxLocals)) t := by
    intro t k
    refine pre2 _ ?_
    by_cases hm13 : (y6 &&& (1 : Int32)) = (0 : Int32)
    · have hq := hxm
      rw [if_pos hm13] at hq
      rw [hq] at k
      show Steps p.tables e below (s₁.setTop (mkF m 13 #[.val (.long y1), .second, .val (.long y2), .second, .val (.long y3), .second, .val (.long y4), .second, .val (.int y5), .val (.int y6), .val (.int v7), .unset, .unset, .unset, .unset, .unset, .unset, .unset, .unset, .unset, .unset] [(.int (y6 &&& (1 : Int32)))])) _
      refine XS.ifYes X0.here hx rfl (pc0 := 13) (pc' := 21) rfl (hb hby at_13) rfl ((if0 _ _).trans (teq hm13).1) (by decide) (by decide) ?_
      show Steps p.tables e below (s₁.setTop (mkF m 21 #[.val (.long y1), .second, .val (.long y2), .second, .val (.long y3), .second, .val (.long y4), .second, .val (.int y5), .val (.int y6), .val (.int v7), .unset, .unset, .unset, .unset, .unset, .unset, .unset, .unset, .unset, .unset] [])) _
      refine XS.iload X0.here hx rfl (hb hby at_21) rfl ?_
      show Steps p.tables e below (s₁.setTop (mkF m 23 #[.val (.long y1), .second, .val (.long y2), .second, .val (.long y3), .second, .val (.long y4), .second, .val (.int y5), .val (.int y6), .val (.int v7), .unset, .unset, .unset, .unset, .unset, .unset, .unset, .unset, .unset, .unset] [(.int y6)])) _
      refine XS.bipush X0.here hx rfl (hb hby at_23) ?_
      show Steps p.tables e below (s₁.setTop (mkF m 25 #[.val (.long y1), .second, .val (.long y2), .second, .val (.long y3), .second, .val (.long y4), .second, .val (.int y5), .val (.int y6), .val (.int v7), .unset, .unset, .unset, .unset, .unset, .unset, .unset, .unset, .unset, .unset] [(.int (8 : Int32)), (.int y6)])) _
      refine XS.iushr X0.here hx rfl (hb hby at_25) rfl ?_
      show Steps p.tables e below (s₁.setTop (mkF m 26 #[.val (.long y1), .second, .val (.long y2), .second, .val (.long y3), .second, .val (.long y4), .second, .val (.int y5), .val (.int y6), .val (.int v7), .unset, .unset, .unset, .unset, .unset, .unset, .unset, .unset, .unset, .unset] [(.int ((y6.toUInt32 >>> ((8 : Int32) &&& 31).toUInt32).toInt32))])) _
      refine XS.sipush X0.here hx rfl (hb hby at_26) ?_
      show Steps p.tables e below (s₁.setTop (mkF m 29 #[.val (.long y1), .second, .val (.long y2), .second, .val (.long y3), .second, .val (.long y4), .second, .val (.int y5), .val (.int y6), .val (.int v7), .unset, .unset, .unset, .unset, .unset, .unset, .unset, .unset, .unset, .unset] [(.int (255 : Int32)), (.int ((y6.toUInt32 >>> ((8 : Int32) &&& 31).toUInt32).toInt32))])) _
      refine XS.iand X0.here hx rfl (hb hby at_29) rfl ?_
      show Steps p.tables e below (s₁.setTop (mkF m 30 #[.val (.long y1), .second, .val (.long y2), .second, .val (.long y3), .second, .val (.long y4), .second, .val (.int y5), .val (.int y6), .val (.int v7), .unset, .unset, .unset, .unset, .unset, .unset, .unset, .unset, .unset, .unset] [(.int (((y6.toUInt32 >>> ((8 : Int32) &&& 31).toUInt32).toInt32) &&& (255 : Int32)))])) _
      refine XS.i2c X0.here hx rfl (hb hby at_30) rfl ?_
      exact k
    · have hq := hxm
      rw [if_neg hm13] at hq
      rw [hq] at k
      show Steps p.tables e below (s₁.setTop (mkF m 13 #[.val (.long y1), .second, .val (.long y2), .second, .val (.long y3), .second, .val (.long y4), .second, .val (.int y5), .val (.int y6), .val (.int v7), .unset, .unset, .unset, .unset, .unset, .unset, .unset, .unset, .unset, .unset] [(.int (y6 &&& (1 : Int32)))])) _
      refine XS.ifNo X0.here hx rfl (hb hby at_13) rfl ((if0 _ _).trans (feq hm13).1) ?_
      show Steps p.tables e below (s₁.setTop (mkF m 16 #[.val (.long y1), .second, .val (.long y2), .second, .val (.long y3), .second, .val (.long y4), .second, .val (.int y5), .val (.int y6), .val (.int v7), .unset, .unset, .unset, .unset, .unset, .unset, .unset, .unset, .unset, .unset] [])) _
      refine XS.iload X0.here hx rfl (hb hby at_16) rfl ?_
      show Steps p.tables e below (s₁.setTop (mkF m 18 #[.val (.long y1), .second, .val (.long y2), .second, .val (.long y3), .second, .val (.long y4), .second, .val (.int y5), .val (.int y6), .val (.int v7), .unset, .unset, .unset, .unset, .unset, .unset, .unset, .unset, .unset, .unset] [(.int v7)])) _
      refine XS.goto X0.here hx rfl (pc0 := 18) (pc' := 31) rfl (hb hby at_18) (by decide) (by decide) ?_
      exact k
  obtain ⟨v39, hv39⟩ : ∃ w : Int32, w = (((y6.toUInt32 >>> ((1 : Int32) &&& 31).toUInt32).toInt32) &&& (3 : Int32)) := ⟨_, rfl⟩
  have pre4 : ∀ t, Steps p.tables e below (s₁.setTop (mkF m 41 #[.val (.long y1), .second, .val (.long y2), .second, .val (.long y3), .second, .val (.long y4), .second, .val (.int y5), .val (.int y6), .val (.int v7), .val (.int xm), .val (.int v39), .unset, .unset, .unset, .unset, .unset, .unset, .unset, .unset] [])) t → Steps p.tables e below (s₁.setTop (entryFrame m #[(.long y1), (.long y2), (.long y3), (.long y4), (.int y5), (.int y6)] maxLocals)) t := by
    intro t k
    rw [hv39] at k
    refine pre3 _ ?_
    show Steps p.tables e below (s₁.setTop (mkF m 31 #[.val (.long y1), .second, .val (.long y2), .second, .val (.long y3), .second, .val (.long y4), .second, .val (.int y5), .val (.int y6), .val (.int v7), .unset, .unset, .unset, .unset, .unset, .unset, .unset, .unset, .unset, .unset] [(.int xm)])) _
    refine XS.istore X0.here hx rfl (hb hby at_31) rfl (l' := #[.val (.long y1), .second, .val (.long y2), .second, .val (.long y3), .second, .val (.long y4), .second, .val (.int y5), .val (.int y6), .val (.int v7), .val (.int xm), .unset, .unset, .unset, .unset, .unset, .unset, .unset, .unset, .unset]) rfl ?_
    show Steps p.tables e below (s₁.setTop (mkF m 33 #[.val (.long y1), .second, .val (.long y2), .second, .val (.long y3), .second, .val (.long y4), .second, .val (.int y5), .val (.int y6), .val (.int v7), .val (.int xm), .unset, .unset, .unset, .unset, .unset, .unset, .unset, .unset, .unset] [])) _
    refine XS.iload X0.here hx rfl (hb hby at_33) rfl ?_
    show Steps p.tables e below (s₁.setTop (mkF m 35 #[.val (.long y1), .second, .val (.long y2), .second, .val (.long y3), .second, .val (.long y4), .second, .val (.int y5), .val (.int y6), .val (.int v7), .val (.int xm), .unset, .unset, .unset, .unset, .unset, .unset, .unset, .unset, .unset] [(.int y6)])) _
    refine XS.iconst X0.here hx rfl (hb hby at_35) ?_
    show Steps p.tables e below (s₁.setTop (mkF m 36 #[.val (.long y1), .second, .val (.long y2), .second, .val (.long y3), .second, .val (.long y4), .second, .val (.int y5), .val (.int y6), .val (.int v7), .val (.int xm), .unset, .unset, .unset, .unset, .unset, .unset, .unset, .unset, .unset] [(.int (1 : Int32)), (.int y6)])) _
    refine XS.iushr X0.here hx rfl (hb hby at_36) rfl ?_
    show Steps p.tables e below (s₁.setTop (mkF m 37 #[.val (.long y1), .second, .val (.long y2), .second, .val (.long y3), .second, .val (.long y4), .second, .val (.int y5), .val (.int y6), .val (.int v7), .val (.int xm), .unset, .unset, .unset, .unset, .unset, .unset, .unset, .unset, .unset] [(.int ((y6.toUInt32 >>> ((1 : Int32) &&& 31).toUInt32).toInt32))])) _
    refine XS.iconst X0.here hx rfl (hb hby at_37) ?_
    show Steps p.tables e below (s₁.setTop (mkF m 38 #[.val (.long y1), .second, .val (.long y2), .second, .val (.long y3), .second, .val (.long y4), .second, .val (.int y5), .val (.int y6), .val (.int v7), .val (.int xm), .unset, .unset, .unset, .unset, .unset, .unset, .unset, .unset, .unset] [(.int (3 : Int32)), (.int ((y6.toUInt32 >>> ((1 : Int32) &&& 31).toUInt32).toInt32))])) _
    refine XS.iand X0.here hx rfl (hb hby at_38) rfl ?_
    show Steps p.tables e below (s₁.setTop (mkF m 39 #[.val (.long y1), .second, .val (.long y2), .second, .val (.long y3), .second, .val (.long y4), .second, .val (.int y5), .val (.int y6), .val (.int v7), .val (.int xm), .unset, .unset, .unset, .unset, .unset, .unset, .unset, .unset, .unset] [(.int (((y6.toUInt32 >>> ((1 : Int32) &&& 31).toUInt32).toInt32) &&& (3 : Int32)))])) _
    refine XS.istore X0.here hx rfl (hb hby at_39) rfl (l' := #[.val (.long y1), .second, .val (.long y2), .second, .val (.long y3), .second, .val (.long y4), .second, .val (.int y5), .val (.int y6), .val (.int v7), .val (.int xm), .val (.int (((y6.toUInt32 >>> ((1 : Int32) &&& 31).toUInt32).toInt32) &&& (3 : Int32))), .unset, .unset, .unset, .unset, .unset, .unset, .unset, .unset]) rfl ?_
    exact k
  have pre5 : ∀ t, Steps p.tables e below (s₁.setTop (mkF m 43 #[.val (.long y1), .second, .val (.long y2), .second, .val (.long y3), .second, .val (.long y4), .second, .val (.int y5), .val (.int y6), .val (.int v7), .val (.int xm), .val (.int v39), .unset, .unset, .unset, .unset, .unset, .unset, .unset, .unset] [(.int v39)])) t → Steps p.tables e below (s₁.setTop (entryFrame m #[(.long y1), (.long y2), (.long y3), (.long y4), (.int y5), (.int y6)] maxLocals)) t := by
    intro t k
    refine pre4 _ ?_
    show Steps p.tables e below (s₁.setTop (mkF m 41 #[.val (.long y1), .second, .val (.long y2), .second, .val (.long y3), .second, .val (.long y4), .second, .val (.int y5), .val (.int y6), .val (.int v7), .val (.int xm), .val (.int v39), .unset, .unset, .unset, .unset, .unset, .unset, .unset, .unset] [])) _
    refine XS.iload X0.here hx rfl (hb hby at_41) rfl ?_
    exact k
  obtain ⟨xp, hxp⟩ : ∃ w : Int32, w = (if v39 = (0 : Int32) then v7 else (if v39 = (1 : Int32) then xm else ((((y6.toUInt32 >>> ((16 : Int32) &&& 31).toUInt32).toInt32) &&& (255 : Int32)).toUInt32.toUInt16.toUInt32.toInt32))) := ⟨_, rfl⟩
  have pre6 : ∀ t, Steps p.tables e below (s₁.setTop (mkF m 72 #[.val (.long y1), .second, .val (.long y2), .second, .val (.long y3), .second, .val (.long y4), .second, .val (.int y5), .val (.int y6), .val (.int v7), .val (.int xm), .val (.int v39), .unset, .unset, .unset, .unset, .unset, .unset, .unset, .unset] [(.int xp)])) t → Steps p.tables e below (s₁.setTop (entryFrame m #[(.long y1), (.long y2), (.long y3), (.long y4), (.int y5), (.int y6)] maxLocals)) t := by
    intro t k
    refine pre5 _ ?_
    by_cases hm43 : v39 = (0 : Int32)
    · have hq := hxp
      rw [if_pos hm43] at hq
      rw [hq] at k
      show Steps p.tables e below (s₁.setTop (mkF m 43 #[.val (.long y1), .second, .val (.long y2), .second, .val (.long y3), .second, .val (.long y4), .second, .val (.int y5), .val (.int y6), .val (.int v7), .val (.int xm), .val (.int v39), .unset, .unset, .unset, .unset, .unset, .unset, .unset, .unset] [(.int v39)])) _
      refine XS.ifNo X0.here hx rfl (hb hby at_43) rfl ((if0 _ _).trans (teq hm43).2) ?_
      show Steps p.tables e below (s₁.setTop (mkF m 46 #[.val (.long y1), .second, .val (.long y2), .second, .val (.long y3), .second, .val (.long y4), .second, .val (.int y5), .val (.int y6), .val (.int v7), .val (.int xm), .val (.int v39), .unset, .unset, .unset, .unset, .unset, .unset, .unset, .unset] [])) _
      refine XS.iload X0.here hx rfl (hb hby at_46) rfl ?_
      show Steps p.tables e below (s₁.setTop (mkF m 48 #[.val (.long y1), .second, .val (.long y2), .second, .val (.long y3), .second, .val (.long y4), .second, .val (.int y5), .val (.int y6), .val (.int v7), .val (.int xm), .val (.int v39), .unset, .unset, .unset, .unset, .unset, .unset, .unset, .unset] [(.int v7)])) _
      refine XS.goto X0.here hx rfl (pc0 := 48) (pc' := 72) rfl (hb hby at_48) (by decide) (by decide) ?_
      exact k
    · by_cases hm54 : v39 = (1 : Int32)
      · have hq := hxp
        rw [if_neg hm43, if_pos hm54] at hq
        rw [hq] at k
        show Steps p.tables e below (s₁.setTop (mkF m 43 #[.val (.long y1), .second, .val (.long y2), .second, .val (.long y3), .second, .val (.long y4), .second, .val (.int y5), .val (.int y6), .val (.int v7), .val (.int xm), .val (.int v39), .unset, .unset, .unset, .unset, .unset, .unset, .unset, .unset] [(.int v39)])) _
        refine XS.ifYes X0.here hx rfl (pc0 := 43) (pc' := 51) rfl (hb hby at_43) rfl ((if0 _ _).trans (feq hm43).2) (by decide) (by decide) ?_
        show Steps p.tables e below (s₁.setTop (mkF m 51 #[.val (.long y1), .second, .val (.long y2), .second, .val (.long y3), .second, .val (.long y4), .second, .val (.int y5), .val (.int y6), .val (.int v7), .val (.int xm), .val (.int v39), .unset, .unset, .unset, .unset, .unset, .unset, .unset, .unset] [])) _
        refine XS.iload X0.here hx rfl (hb hby at_51) rfl ?_
        show Steps p.tables e below (s₁.setTop (mkF m 53 #[.val (.long y1), .second, .val (.long y2), .second, .val (.long y3), .second, .val (.long y4), .second, .val (.int y5), .val (.int y6), .val (.int v7), .val (.int xm), .val (.int v39), .unset, .unset, .unset, .unset, .unset, .unset, .unset, .unset] [(.int v39)])) _
        refine XS.iconst X0.here hx rfl (hb hby at_53) ?_
        show Steps p.tables e below (s₁.setTop (mkF m 54 #[.val (.long y1), .second, .val (.long y2), .second, .val (.long y3), .second, .val (.long y4), .second, .val (.int y5), .val (.int y6), .val (.int v7), .val (.int xm), .val (.int v39), .unset, .unset, .unset, .unset, .unset, .unset, .unset, .unset] [(.int (1 : Int32)), (.int v39)])) _
        refine XS.icmpNo X0.here hx rfl (hb hby at_54) rfl (teq hm54).2 ?_
        show Steps p.tables e below (s₁.setTop (mkF m 57 #[.val (.long y1), .second, .val (.long y2), .second, .val (.long y3), .second, .val (.long y4), .second, .val (.int y5), .val (.int y6), .val (.int v7), .val (.int xm), .val (.int v39), .unset, .unset, .unset, .unset, .unset, .unset, .unset, .unset] [])) _
        refine XS.iload X0.here hx rfl (hb hby at_57) rfl ?_
        show Steps p.tables e below (s₁.setTop (mkF m 59 #[.val (.long y1), .second, .val (.long y2), .second, .val (.long y3), .second, .val (.long y4), .second, .val (.int y5), .val (.int y6), .val (.int v7), .val (.int xm), .val (.int v39), .unset, .unset, .unset, .unset, .unset, .unset, .unset, .unset] [(.int xm)])) _
        refine XS.goto X0.here hx rfl (pc0 := 59) (pc' := 72) rfl (hb hby at_59) (by decide) (by decide) ?_
        exact k
      · have hq := hxp
        rw [if_neg hm43, if_neg hm54] at hq
        rw [hq] at k
        show Steps p.tables e below (s₁.setTop (mkF m 43 #[.val (.long y1), .second, .val (.long y2), .second, .val (.long y3), .second, .val (.long y4), .second, .val (.int y5), .val (.int y6), .val (.int v7), .val (.int xm), .val (.int v39), .unset, .unset, .unset, .unset, .unset, .unset, .unset, .unset] [(.int v39)])) _
        refine XS.ifYes X0.here hx rfl (pc0 := 43) (pc' := 51) rfl (hb hby at_43) rfl ((if0 _ _).trans (feq hm43).2) (by decide) (by decide) ?_
        show Steps p.tables e below (s₁.setTop (mkF m 51 #[.val (.long y1), .second, .val (.long y2), .second, .val (.long y3), .second, .val (.long y4), .second, .val (.int y5), .val (.int y6), .val (.int v7), .val (.int xm), .val (.int v39), .unset, .unset, .unset, .unset, .unset, .unset, .unset, .unset] [])) _
        refine XS.iload X0.here hx rfl (hb hby at_51) rfl ?_
        show Steps p.tables e below (s₁.setTop (mkF m 53 #[.val (.long y1), .second, .val (.long y2), .second, .val (.long y3), .second, .val (.long y4), .second, .val (.int y5), .val (.int y6), .val (.int v7), .val (.int xm), .val (.int v39), .unset, .unset, .unset, .unset, .unset, .unset, .unset, .unset] [(.int v39)])) _
        refine XS.iconst X0.here hx rfl (hb hby at_53) ?_
        show Steps p.tables e below (s₁.setTop (mkF m 54 #[.val (.long y1), .second, .val (.long y2), .second, .val (.long y3), .second, .val (.long y4), .second, .val (.int y5), .val (.int y6), .val (.int v7), .val (.int xm), .val (.int v39), .unset, .unset, .unset, .unset, .unset, .unset, .unset, .unset] [(.int (1 : Int32)), (.int v39)])) _
        refine XS.icmpYes X0.here hx rfl (pc0 := 54) (pc' := 62) rfl (hb hby at_54) rfl (feq hm54).2 (by decide) (by decide) ?_
        show Steps p.tables e below (s₁.setTop (mkF m 62 #[.val (.long y1), .second, .val (.long y2), .second, .val (.long y3), .second, .val (.long y4), .second, .val (.int y5), .val (.int y6), .val (.int v7), .val (.int xm), .val (.int v39), .unset, .unset, .unset, .unset, .unset, .unset, .unset, .unset] [])) _
        refine XS.iload X0.here hx rfl (hb hby at_62) rfl ?_
        show Steps p.tables e below (s₁.setTop (mkF m 64 #[.val (.long y1), .second, .val (.long y2), .second, .val (.long y3), .second, .val (.long y4), .second, .val (.int y5), .val (.int y6), .val (.int v7), .val (.int xm), .val (.int v39), .unset, .unset, .unset, .unset, .unset, .unset, .unset, .unset] [(.int y6)])) _
        refine XS.bipush X0.here hx rfl (hb hby at_64) ?_
        show Steps p.tables e below (s₁.setTop (mkF m 66 #[.val (.long y1), .second, .val (.long y2), .second, .val (.long y3), .second, .val (.long y4), .second, .val (.int y5), .val (.int y6), .val (.int v7), .val (.int xm), .val (.int v39), .unset, .unset, .unset, .unset, .unset, .unset, .unset, .unset] [(.int (16 : Int32)), (.int y6)])) _
        refine XS.iushr X0.here hx rfl (hb hby at_66) rfl ?_
        show Steps p.tables e below (s₁.setTop (mkF m 67 #[.val (.long y1), .second, .val (.long y2), .second, .val (.long y3), .second, .val (.long y4), .second, .val (.int y5), .val (.int y6), .val (.int v7), .val (.int xm), .val (.int v39), .unset, .unset, .unset, .unset, .unset, .unset, .unset, .unset] [(.int ((y6.toUInt32 >>> ((16 : Int32) &&& 31).toUInt32).toInt32))])) _
        refine XS.sipush X0.here hx rfl (hb hby at_67) ?_
        show Steps p.tables e below (s₁.setTop (mkF m 70 #[.val (.long y1), .second, .val (.long y2), .second, .val (.long y3), .second, .val (.long y4), .second, .val (.int y5), .val (.int y6), .val (.int v7), .val (.int xm), .val (.int v39), .unset, .unset, .unset, .unset, .unset, .unset, .unset, .unset] [(.int (255 : Int32)), (.int ((y6.toUInt32 >>> ((16 : Int32) &&& 31).toUInt32).toInt32))])) _
        refine XS.iand X0.here hx rfl (hb hby at_70) rfl ?_
        show Steps p.tables e below (s₁.setTop (mkF m 71 #[.val (.long y1), .second, .val (.long y2), .second, .val (.long y3), .second, .val (.long y4), .second, .val (.int y5), .val (.int y6), .val (.int v7), .val (.int xm), .val (.int v39), .unset, .unset, .unset, .unset, .unset, .unset, .unset, .unset] [(.int (((y6.toUInt32 >>> ((16 : Int32) &&& 31).toUInt32).toInt32) &&& (255 : Int32)))])) _
        refine XS.i2c X0.here hx rfl (hb hby at_71) rfl ?_
        exact k
  have q1 : ¬ ((255 : Int32) < v7) := by rw [hv7]; exact own_c255 _
  have q2 : ¬ ((255 : Int32) < xm) := by rw [hxm]; split; exact own_c255 _; exact q1
  have q3 : ¬ ((255 : Int32) < xp) := by rw [hxp]; split; exact q1; split; exact q2; exact own_c255 _
  obtain ⟨_, _, ⟨T7, L7, k7, n7⟩, -, X7, ⟨Lc7, hQ7, l7, y7, z7⟩, st7⟩ := Jvm.LawKit.callS X0 hx (y := (⟨"java/lang/String", "valueOf", "(C)Ljava/lang/String;"⟩ : MethodName)) hown (mvT hZ (hw _ (List.mem_of_getElem? (i := 0) rfl))) (mvT hZ (hw _ (List.mem_of_getElem? (i := 1) rfl))) (mvT hZ (hw _ (List.mem_of_getElem? (i := 2) rfl))) (mvT hZ (hw _ (List.mem_of_getElem? (i := 3) rfl))) (by decide) (backOf (W := 0) (own_rm1 l Z a0 hw [] v7 xcs h0 n0 Z0 S_CS (hcs) (q1)) hZ (hw _ (List.mem_of_getElem? (i := 3) rfl)) (hw _ (List.mem_of_getElem? (i := 2) rfl)) (by decide) (by decide)) (g := (mkF m 76 #[.val (.long y1), .second, .val (.long y2), .second, .val (.long y3), .second, .val (.long y4), .second, .val (.int y5), .val (.int y6), .val (.int v7), .val (.int xm), .val (.int v39), .val (.int xp), .unset, .unset, .unset, .unset, .unset, .unset, .unset] [(.int v7)])) rfl (by rw [hml]; rfl) (argsL := [(.int v7)]) (rest := []) (lenOf own_pd7 rfl) rfl (by show 2 * 0 + _ ≤ _; exact Nat.le_of_eq rfl) (hb hby at_76) (fun _ _ => ⟨rfl, e0, (by decide : 0 + 2 ≤ _), (by decide : 0 + 5 ≤ _)⟩)
  dsimp only [Pt.U, Pt.locs, Pt.cells, Pt.slots] at X7 l7 y7 z7 st7 hQ7
  subst l7 y7 z7
  obtain ⟨b7xs, b7xv, g7xk, rfl, N7q, K7q, sz0_b7xs, lt_b7xs, sz0_b7xv, lt_b7xv, F8, F9, F10, F11⟩ := hQ7
  have K7 := K7q
  have g_b7xs : n0 ≤ b7xs := Nat.le_trans Z0 sz0_b7xs
  have sz_b7xs : h0.size ≤ b7xs := Nat.le_trans K0.1 sz0_b7xs
  have g_b7xv : n0 ≤ b7xv := Nat.le_trans Z0 sz0_b7xv
  have sz_b7xv : h0.size ≤ b7xv := Nat.le_trans K0.1 sz0_b7xv
  have KK7 : Keep h0 T7.heap [] := K0.trans K7 all0
  have F12 : Sta Z T7.heap "java/lang/String" "COMPACT_STRINGS" "Z" (.int xcs) := S_CS.ext (own_ext KK7)
  have Z7 : n0 ≤ T7.heap.size := Nat.le_trans Z0 K7.1
  have N7 := Fr.app N0 N7q
  obtain ⟨_, _, ⟨T13, L13, k13, n13⟩, -, X13, ⟨Lc13, hQ13, l13, y13, z13⟩, st13⟩ := Jvm.LawKit.callS X7 hx (y := (⟨"java/lang/String", "valueOf", "(C)Ljava/lang/String;"⟩ : MethodName)) hown (mvT hZ (hw _ (List.mem_of_getElem? (i := 0) rfl))) (mvT hZ (hw _ (List.mem_of_getElem? (i := 1) rfl))) (mvT hZ (hw _ (List.mem_of_getElem? (i := 2) rfl))) (mvT hZ (hw _ (List.mem_of_getElem? (i := 3) rfl))) (by decide) (backOf (W := 0) (own_rm1 l Z a0 hw [] xm xcs T7.heap n0 Z7 F12 (hcs) (q2)) hZ (hw _ (List.mem_of_getElem? (i := 3) rfl)) (hw _ (List.mem_of_getElem? (i := 2) rfl)) (by decide) (by decide)) (g := (mkF m 83 #[.val (.long y1), .second, .val (.long y2), .second, .val (.long y3), .second, .val (.long y4), .second, .val (.int y5), .val (.int y6), .val (.int v7), .val (.int xm), .val (.int v39), .val (.int xp), .val (.ref b7xs), .unset, .unset, .unset, .unset, .unset, .unset] [(.int xm)])) rfl (by rw [hml]; rfl) (argsL := [(.int xm)]) (rest := []) (lenOf own_pd7 rfl) rfl (by show 2 * 0 + _ ≤ _; exact Nat.le_of_eq rfl) (hb hby at_83) (fun _ _ => ⟨rfl, rfl, (by decide : 2 + 2 ≤ _), (by decide : 5 + 5 ≤ _)⟩)
  dsimp only [Pt.U, Pt.locs, Pt.cells, Pt.slots] at X13 l13 y13 z13 st13 hQ13
  subst l13 y13 z13
  obtain ⟨b13xs, b13xv, g13xk, rfl, N13q, K13q, sz0_b13xs, lt_b13xs, sz0_b13xv, lt_b13xv, F14, F15, F16, F17⟩ := hQ13
  have K13 := K13q
  have ne_b7xs_b13xs : b7xs ≠ b13xs := Nat.ne_of_lt (Nat.lt_of_lt_of_le F10.lt sz0_b13xs)
  have ne_b7xv_b13xs : b7xv ≠ b13xs := Nat.ne_of_lt (Nat.lt_of_lt_of_le F11.lt sz0_b13xs)
  have g_b13xs : n0 ≤ b13xs := Nat.le_trans Z7 sz0_b13xs
  have sz_b13xs : h0.size ≤ b13xs := Nat.le_trans KK7.1 sz0_b13xs
  have ne_b7xs_b13xv : b7xs ≠ b13xv := Nat.ne_of_lt (Nat.lt_of_lt_of_le F10.lt sz0_b13xv)
  have ne_b7xv_b13xv : b7xv ≠ b13xv := Nat.ne_of_lt (Nat.lt_of_lt_of_le F11.lt sz0_b13xv)
  have g_b13xv : n0 ≤ b13xv := Nat.le_trans Z7 sz0_b13xv
  have sz_b13xv : h0.size ≤ b13xv := Nat.le_trans KK7.1 sz0_b13xv
  have KK13 : Keep h0 T13.heap [] := KK7.trans K13 all0
  have F18 : Sta Z T13.heap "java/lang/String" "COMPACT_STRINGS" "Z" (.int xcs) := S_CS.ext (own_ext KK13)
  have F19 : Exa Z T13.heap b7xs "java/lang/String" := F8.keep K13
  have F20 : Fld Z T13.heap b7xs "java/lang/String" "value" "[B" (.ref b7xv) := F9.keep K13 nin0
  have F21 : Fld Z T13.heap b7xs "java/lang/String" "coder" "B" (.int (0 : Int32)) := F10.keep K13 nin0
  have F22 : Arv Z T13.heap b7xv g7xk .byte (1 : Int32) [(.int ((v7.toInt8.toInt32).toInt8.toInt32))] (.int (0 : Int32)) := F11.keep K13 nin0
  have Z13 : n0 ≤ T13.heap.size := Nat.le_trans Z7 K13.1
  have N13 := Fr.app N7 N13q
  obtain ⟨_, _, ⟨T23, L23, k23, n23⟩, -, X23, ⟨Lc23, hQ23, l23, y23, z23⟩, st23⟩ := Jvm.LawKit.callS X13 hx (y := (⟨"java/lang/String", "valueOf", "(C)Ljava/lang/String;"⟩ : MethodName)) hown (mvT hZ (hw _ (List.mem_of_getElem? (i := 0) rfl))) (mvT hZ (hw _ (List.mem_of_getElem? (i := 1) rfl))) (mvT hZ (hw _ (List.mem_of_getElem? (i := 2) rfl))) (mvT hZ (hw _ (List.mem_of_getElem? (i := 3) rfl))) (by decide) (backOf (W := 0) (own_rm1 l Z a0 hw [] xp xcs T13.heap n0 Z13 F18 (hcs) (q3)) hZ (hw _ (List.mem_of_getElem? (i := 3) rfl)) (hw _ (List.mem_of_getElem? (i := 2) rfl)) (by decide) (by decide)) (g := (mkF m 90 #[.val (.long y1), .second, .val (.long y2), .second, .val (.long y3), .second, .val (.long y4), .second, .val (.int y5), .val (.int y6), .val (.int v7), .val (.int xm), .val (.int v39), .val (.int xp), .val (.ref b7xs), .val (.ref b13xs), .unset, .unset, .unset, .unset, .unset] [(.int xp)])) rfl (by rw [hml]; rfl) (argsL := [(.int xp)]) (rest := []) (lenOf own_pd7 rfl) rfl (by show 2 * 0 + _ ≤ _; exact Nat.le_of_eq rfl) (hb hby at_90) (fun _ _ => ⟨rfl, rfl, (by decide : 4 + 2 ≤ _), (by decide : 10 + 5 ≤ _)⟩)
  dsimp only [Pt.U, Pt.locs, Pt.cells, Pt.slots] at X23 l23 y23 z23 st23 hQ23
  subst l23 y23 z23
  obtain ⟨b23xs, b23xv, g23xk, rfl, N23q, K23q, sz0_b23xs, lt_b23xs, sz0_b23xv, lt_b23xv, F24, F25, F26, F27⟩ := hQ23
  have K23 := K23q
  have ne_b7xs_b23xs : b7xs ≠ b23xs := Nat.ne_of_lt (Nat.lt_of_lt_of_le F21.lt sz0_b23xs)
  have ne_b7xv_b23xs : b7xv ≠ b23xs := Nat.ne_of_lt (Nat.lt_of_lt_of_le F22.lt sz0_b23xs)
  have ne_b13xs_b23xs : b13xs ≠ b23xs := Nat.ne_of_lt (Nat.lt_of_lt_of_le F16.lt sz0_b23xs)
  have ne_b13xv_b23xs : b13xv ≠ b23xs := Nat.ne_of_lt (Nat.lt_of_lt_of_le F17.lt sz0_b23xs)
  have g_b23xs : n0 ≤ b23xs := Nat.le_trans Z13 sz0_b23xs
  have sz_b23xs : h0.size ≤ b23xs := Nat.le_trans KK13.1 sz0_b23xs
  have ne_b7xs_b23xv : b7xs ≠ b23xv := Nat.ne_of_lt (Nat.lt_of_lt_of_le F21.lt sz0_b23xv)
  have ne_b7xv_b23xv : b7xv ≠ b23xv := Nat.ne_of_lt (Nat.lt_of_lt_of_le F22.lt sz0_b23xv)
  have ne_b13xs_b23xv : b13xs ≠ b23xv := Nat.ne_of_lt (Nat.lt_of_lt_of_le F16.lt sz0_b23xv)
  have ne_b13xv_b23xv : b13xv ≠ b23xv := Nat.ne_of_lt (Nat.lt_of_lt_of_le F17.lt sz0_b23xv)
  have g_b23xv : n0 ≤ b23xv := Nat.le_trans Z13 sz0_b23xv
  have sz_b23xv : h0.size ≤ b23xv := Nat.le_trans KK13.1 sz0_b23xv
  have KK23 : Keep h0 T23.heap [] := KK13.trans K23 all0
  have F28 : Sta Z T23.heap "java/lang/String" "COMPACT_STRINGS" "Z" (.int xcs) := S_CS.ext (own_ext KK23)
  have F29 : Exa Z T23.heap b7xs "java/lang/String" := F19.keep K23
  have F30 : Fld Z T23.heap b7xs "java/lang/String" "value" "[B" (.ref b7xv) := F20.keep K23 nin0
  have F31 : Fld Z T23.heap b7xs "java/lang/String" "coder" "B" (.int (0 : Int32)) := F21.keep K23 nin0
  have F32 : Arv Z T23.heap b7xv g7xk .byte (1 : Int32) [(.int ((v7.toInt8.toInt32).toInt8.toInt32))] (.int (0 : Int32)) := F22.keep K23 nin0
  have F33 : Exa Z T23.heap b13xs "java/lang/String" := F14.keep K23
  have F34 : Fld Z T23.heap b13xs "java/lang/String" "value" "[B" (.ref b13xv) := F15.keep K23 nin0
  have F35 : Fld Z T23.heap b13xs "java/lang/String" "coder" "B" (.int (0 : Int32)) := F16.keep K23 nin0
  have F36 : Arv Z T23.heap b13xv g13xk .byte (1 : Int32) [(.int ((xm.toInt8.toInt32).toInt8.toInt32))] (.int (0 : Int32)) := F17.keep K23 nin0
  have Z23 : n0 ≤ T23.heap.size := Nat.le_trans Z13 K23.1
  have N23 := Fr.app N13 N23q
  obtain ⟨T37, h37, X37, e37, E37, A37, D37, -, st37⟩ := newO X23 hx hZ hown (hw _ (List.mem_of_getElem? (i := 26) rfl)) (hw _ (List.mem_of_getElem? (i := 27) rfl)) (hw _ (List.mem_of_getElem? (i := 28) rfl)) rfl (g := (mkF m 95 #[.val (.long y1), .second, .val (.long y2), .second, .val (.long y3), .second, .val (.long y4), .second, .val (.int y5), .val (.int y6), .val (.int v7), .val (.int xm), .val (.int v39), .val (.int xp), .val (.ref b7xs), .val (.ref b13xs), .val (.ref b23xs), .unset, .unset, .unset, .unset] [])) rfl (hb hby at_95) (by decide) (by decide)
  obtain ⟨b37, g37⟩ : ∃ z, z = T23.heap.size := ⟨_, rfl⟩
  rw [← g37] at A37 D37 st37
  have ne_b7xs_b37 : b7xs ≠ b37 := Nat.ne_of_lt (Nat.lt_of_lt_of_le F31.lt (Nat.le_of_eq g37.symm))
  have ne_b7xv_b37 : b7xv ≠ b37 := Nat.ne_of_lt (Nat.lt_of_lt_of_le F32.lt (Nat.le_of_eq g37.symm))
  have ne_b13xs_b37 : b13xs ≠ b37 := Nat.ne_of_lt (Nat.lt_of_lt_of_le F35.lt (Nat.le_of_eq g37.symm))
  have ne_b13xv_b37 : b13xv ≠ b37 := Nat.ne_of_lt (Nat.lt_of_lt_of_le F36.lt (Nat.le_of_eq g37.symm))
  have ne_b23xs_b37 : b23xs ≠ b37 := Nat.ne_of_lt (Nat.lt_of_lt_of_le F26.lt (Nat.le_of_eq g37.symm))
  have ne_b23xv_b37 : b23xv ≠ b37 := Nat.ne_of_lt (Nat.lt_of_lt_of_le F27.lt (Nat.le_of_eq g37.symm))
  have g_b37 : n0 ≤ b37 := Nat.le_trans Z23 (Nat.le_of_eq g37.symm)
  have sz_b37 : h0.size ≤ b37 := Nat.le_trans KK23.1 (Nat.le_of_eq g37.symm)
  have K37 : Keep h0 h37 [] := KK23.ext E37
  have F38 : Sta Z h37 "java/lang/String" "COMPACT_STRINGS" "Z" (.int xcs) := F28.ext E37
  have F39 : Exa Z h37 b7xs "java/lang/String" := F29.ext E37
  have F40 : Fld Z h37 b7xs "java/lang/String" "value" "[B" (.ref b7xv) := F30.ext E37
  have F41 : Fld Z h37 b7xs "java/lang/String" "coder" "B" (.int (0 : Int32)) := F31.ext E37
  have F42 : Arv Z h37 b7xv g7xk .byte (1 : Int32) [(.int ((v7.toInt8.toInt32).toInt8.toInt32))] (.int (0 : Int32)) := F32.ext E37
  have F43 : Exa Z h37 b13xs "java/lang/String" := F33.ext E37
  have F44 : Fld Z h37 b13xs "java/lang/String" "value" "[B" (.ref b13xv) := F34.ext E37
  have F45 : Fld Z h37 b13xs "java/lang/String" "coder" "B" (.int (0 : Int32)) := F35.ext E37
  have F46 : Arv Z h37 b13xv g13xk .byte (1 : Int32) [(.int ((xm.toInt8.toInt32).toInt8.toInt32))] (.int (0 : Int32)) := F36.ext E37
  have F47 : Exa Z h37 b23xs "java/lang/String" := F24.ext E37
  have F48 : Fld Z h37 b23xs "java/lang/String" "value" "[B" (.ref b23xv) := F25.ext E37
  have F49 : Fld Z h37 b23xs "java/lang/String" "coder" "B" (.int (0 : Int32)) := F26.ext E37
  have F50 : Arv Z h37 b23xv g23xk .byte (1 : Int32) [(.int ((xp.toInt8.toInt32).toInt8.toInt32))] (.int (0 : Int32)) := F27.ext E37
  have Z37 : n0 ≤ h37.size := Nat.le_trans Z23 E37.1
  have F51 : Fld Z h37 b37 "com/example/zhengzi/zhengzi/CorrectionScore" "truePositives" "J" (.long (0 : Int64)) := D37 (Or.inr (hw _ (List.mem_of_getElem? (i := 39) rfl))) (ty := .long) (by decide)
  have F52 : Fld Z h37 b37 "com/example/zhengzi/zhengzi/CorrectionScore" "falsePositives" "J" (.long (0 : Int64)) := D37 (Or.inr (hw _ (List.mem_of_getElem? (i := 41) rfl))) (ty := .long) (by decide)
  have F53 : Fld Z h37 b37 "com/example/zhengzi/zhengzi/CorrectionScore" "falseNegatives" "J" (.long (0 : Int64)) := D37 (Or.inr (hw _ (List.mem_of_getElem? (i := 43) rfl))) (ty := .long) (by decide)
  have F54 : Fld Z h37 b37 "com/example/zhengzi/zhengzi/CorrectionScore" "trueNegatives" "J" (.long (0 : Int64)) := D37 (Or.inr (hw _ (List.mem_of_getElem? (i := 45) rfl))) (ty := .long) (by decide)
  obtain ⟨_, _, ⟨T55, L55, k55, n55⟩, -, X55, ⟨Lc55, hQ55, l55, y55, z55⟩, st55⟩ := X37.specialBack hx (y := (⟨"com/example/zhengzi/zhengzi/CorrectionScore", "<init>", "(JJJJ)V"⟩ : MethodName)) rfl hown (mvT hZ (hw _ (List.mem_of_getElem? (i := 29) rfl))) (mvT hZ (hw _ (List.mem_of_getElem? (i := 30) rfl))) (mvT hZ (hw _ (List.mem_of_getElem? (i := 31) rfl))) (by decide) (backOf (W := 1) (own_rm6 l Z a0 hw [] b37 y1 y2 y3 y4 h37 n0 Z37 A37 F51 F52 F53 F54 g_b37) hZ (hw _ (List.mem_of_getElem? (i := 31) rfl)) (hw _ (List.mem_of_getElem? (i := 28) rfl)) (by decide) (by decide)) (g := (mkF m 105 #[.val (.long y1), .second, .val (.long y2), .second, .val (.long y3), .second, .val (.long y4), .second, .val (.int y5), .val (.int y6), .val (.int v7), .val (.int xm), .val (.int v39), .val (.int xp), .val (.ref b7xs), .val (.ref b13xs), .val (.ref b23xs), .unset, .unset, .unset, .unset] [(.long y4), (.long y3), (.long y2), (.long y1), (.ref b37), (.ref b37)])) rfl (by rw [hml]; rfl) (Steps.refl _) (a := b37) (argsL := [(.long y1), (.long y2), (.long y3), (.long y4)]) (rest := [(.ref b37)]) (lenOf own_pd5 rfl) rfl (by show 2 * 0 + _ ≤ _; exact Nat.le_of_eq rfl) (hb hby at_105) (fun _ _ => ⟨rfl, e37, (by decide : 7 + 0 ≤ _), (by decide : 19 + 0 ≤ _)⟩)
  dsimp only [Pt.U, Pt.locs, Pt.cells, Pt.slots] at X55 l55 y55 z55 st55 hQ55
  subst l55 y55 z55
  obtain ⟨rfl, N55q, K55q, F56, F57, F58, F59, F60⟩ := hQ55
  have K55 := K55q
  have KK55 : Keep h0 T55.heap [] := K37.trans K55 (allS (Or.inr sz_b37) all0)
  have F61 : Sta Z T55.heap "java/lang/String" "COMPACT_STRINGS" "Z" (.int xcs) := S_CS.ext (own_ext KK55)
  have F62 : Exa Z T55.heap b7xs "java/lang/String" := F39.keep K55
  have F63 : Fld Z T55.heap b7xs "java/lang/String" "value" "[B" (.ref b7xv) := F40.keep K55 (ninS ne_b7xs_b37 nin0)
  have F64 : Fld Z T55.heap b7xs "java/lang/String" "coder" "B" (.int (0 : Int32)) := F41.keep K55 (ninS ne_b7xs_b37 nin0)
  have F65 : Arv Z T55.heap b7xv g7xk .byte (1 : Int32) [(.int ((v7.toInt8.toInt32).toInt8.toInt32))] (.int (0 : Int32)) := F42.keep K55 (ninS ne_b7xv_b37 nin0)
  have F66 : Exa Z T55.heap b13xs "java/lang/String" := F43.keep K55
  have F67 : Fld Z T55.heap b13xs "java/lang/String" "value" "[B" (.ref b13xv) := F44.keep K55 (ninS ne_b13xs_b37 nin0)
  have F68 : Fld Z T55.heap b13xs "java/lang/String" "coder" "B" (.int (0 : Int32)) := F45.keep K55 (ninS ne_b13xs_b37 nin0)
  have F69 : Arv Z T55.heap b13xv g13xk .byte (1 : Int32) [(.int ((xm.toInt8.toInt32).toInt8.toInt32))] (.int (0 : Int32)) := F46.keep K55 (ninS ne_b13xv_b37 nin0)
  have F70 : Exa Z T55.heap b23xs "java/lang/String" := F47.keep K55
  have F71 : Fld Z T55.heap b23xs "java/lang/String" "value" "[B" (.ref b23xv) := F48.keep K55 (ninS ne_b23xs_b37 nin0)
  have F72 : Fld Z T55.heap b23xs "java/lang/String" "coder" "B" (.int (0 : Int32)) := F49.keep K55 (ninS ne_b23xs_b37 nin0)
  have F73 : Arv Z T55.heap b23xv g23xk .byte (1 : Int32) [(.int ((xp.toInt8.toInt32).toInt8.toInt32))] (.int (0 : Int32)) := F50.keep K55 (ninS ne_b23xv_b37 nin0)
  have F74 : Exa Z T55.heap b37 "com/example/zhengzi/zhengzi/CorrectionScore" := A37.keep K55
  have Z55 : n0 ≤ T55.heap.size := Nat.le_trans Z37 K55.1
  have N55 := Fr.app N23 N55q
  obtain ⟨_, _, ⟨T75, L75, k75, n75⟩, -, X75, ⟨Lc75, hQ75, l75, y75, z75⟩, st75⟩ := Jvm.LawKit.callS X55 hx (y := (⟨"com/example/zhengzi/zhengzi/CorrectionScore", "of", "(Ljava/lang/String;Ljava/lang/String;Ljava/lang/String;)Lcom/example/zhengzi/zhengzi/CorrectionScore;"⟩ : MethodName)) hown (mvT hZ (hw _ (List.mem_of_getElem? (i := 46) rfl))) (mvT hZ (hw _ (List.mem_of_getElem? (i := 47) rfl))) (mvT hZ (hw _ (List.mem_of_getElem? (i := 28) rfl))) (mvT hZ (hw _ (List.mem_of_getElem? (i := 48) rfl))) (by decide) (backOf (W := 0) (own_rm8 l Z a0 hw [] b7xs b13xs b23xs xcs b7xv g7xk ((v7.toInt8.toInt32).toInt8.toInt32) b13xv g13xk ((xm.toInt8.toInt32).toInt8.toInt32) b23xv g23xk ((xp.toInt8.toInt32).toInt8.toInt32) T55.heap n0 Z55 F61 F62 F63 F64 F65 F66 F67 F68 F69 F70 F71 F72 F73 (hcs) (ne_b7xs_b13xs) (Ne.symm ne_b13xs_b23xs) (Ne.symm ne_b7xs_b23xs)) hZ (hw _ (List.mem_of_getElem? (i := 48) rfl)) (hw _ (List.mem_of_getElem? (i := 28) rfl)) (by decide) (by decide)) (g := (mkF m 116 #[.val (.long y1), .second, .val (.long y2), .second, .val (.long y3), .second, .val (.long y4), .second, .val (.int y5), .val (.int y6), .val (.int v7), .val (.int xm), .val (.int v39), .val (.int xp), .val (.ref b7xs), .val (.ref b13xs), .val (.ref b23xs), .val (.ref b37), .unset, .unset, .unset] [(.ref b23xs), (.ref b13xs), (.ref b7xs)])) rfl (by rw [hml]; rfl) (argsL := [(.ref b7xs), (.ref b13xs), (.ref b23xs)]) (rest := []) (lenOf own_pd8 rfl) rfl (by show 2 * 0 + _ ≤ _; exact Nat.le_of_eq rfl) (hb hby at_116) (fun _ _ => ⟨rfl, rfl, (by decide : 7 + 1 ≤ _), (by decide : 19 + 4 ≤ _)⟩)
  dsimp only [Pt.U, Pt.locs, Pt.cells, Pt.slots] at X75 l75 y75 z75 st75 hQ75
  subst l75 y75 z75
  obtain ⟨b75xn, rfl, N75q, K75q, sz0_b75xn, lt_b75xn, F76, F77, F78, F79, F80⟩ := hQ75
  have K75 := K75q
  have ne_b7xs_b75xn : b7xs ≠ b75xn := Nat.ne_of_lt (Nat.lt_of_lt_of_le F64.lt sz0_b75xn)
  have ne_b7xv_b75xn : b7xv ≠ b75xn := Nat.ne_of_lt (Nat.lt_of_lt_of_le F65.lt sz0_b75xn)
  have ne_b13xs_b75xn : b13xs ≠ b75xn := Nat.ne_of_lt (Nat.lt_of_lt_of_le F68.lt sz0_b75xn)
  have ne_b13xv_b75xn : b13xv ≠ b75xn := Nat.ne_of_lt (Nat.lt_of_lt_of_le F69.lt sz0_b75xn)
  have ne_b23xs_b75xn : b23xs ≠ b75xn := Nat.ne_of_lt (Nat.lt_of_lt_of_le F72.lt sz0_b75xn)
  have ne_b23xv_b75xn : b23xv ≠ b75xn := Nat.ne_of_lt (Nat.lt_of_lt_of_le F73.lt sz0_b75xn)
  have ne_b37_b75xn : b37 ≠ b75xn := Nat.ne_of_lt (Nat.lt_of_lt_of_le F60.lt sz0_b75xn)
  have g_b75xn : n0 ≤ b75xn := Nat.le_trans Z55 sz0_b75xn
  have sz_b75xn : h0.size ≤ b75xn := Nat.le_trans KK55.1 sz0_b75xn
  have KK75 : Keep h0 T75.heap [] := KK55.trans K75 all0
  have F81 : Sta Z T75.heap "java/lang/String" "COMPACT_STRINGS" "Z" (.int xcs) := S_CS.ext (own_ext KK75)
  have F82 : Exa Z T75.heap b7xs "java/lang/String" := F62.keep K75
  have F83 : Fld Z T75.heap b7xs "java/lang/String" "value" "[B" (.ref b7xv) := F63.keep K75 nin0
  have F84 : Fld Z T75.heap b7xs "java/lang/String" "coder" "B" (.int (0 : Int32)) := F64.keep K75 nin0
  have F85 : Arv Z T75.heap b7xv g7xk .byte (1 : Int32) [(.int ((v7.toInt8.toInt32).toInt8.toInt32))] (.int (0 : Int32)) := F65.keep K75 nin0
  have F86 : Exa Z T75.heap b13xs "java/lang/String" := F66.keep K75
  have F87 : Fld Z T75.heap b13xs "java/lang/String" "value" "[B" (.ref b13xv) := F67.keep K75 nin0
  have F88 : Fld Z T75.heap b13xs "java/lang/String" "coder" "B" (.int (0 : Int32)) := F68.keep K75 nin0
  have F89 : Arv Z T75.heap b13xv g13xk .byte (1 : Int32) [(.int ((xm.toInt8.toInt32).toInt8.toInt32))] (.int (0 : Int32)) := F69.keep K75 nin0
  have F90 : Exa Z T75.heap b23xs "java/lang/String" := F70.keep K75
  have F91 : Fld Z T75.heap b23xs "java/lang/String" "value" "[B" (.ref b23xv) := F71.keep K75 nin0
  have F92 : Fld Z T75.heap b23xs "java/lang/String" "coder" "B" (.int (0 : Int32)) := F72.keep K75 nin0
  have F93 : Arv Z T75.heap b23xv g23xk .byte (1 : Int32) [(.int ((xp.toInt8.toInt32).toInt8.toInt32))] (.int (0 : Int32)) := F73.keep K75 nin0
  have F94 : Exa Z T75.heap b37 "com/example/zhengzi/zhengzi/CorrectionScore" := F56.keep K75
  have F95 : Fld Z T75.heap b37 "com/example/zhengzi/zhengzi/CorrectionScore" "truePositives" "J" (.long y1) := F57.keep K75 nin0
  have F96 : Fld Z T75.heap b37 "com/example/zhengzi/zhengzi/CorrectionScore" "falsePositives" "J" (.long y2) := F58.keep K75 nin0
  have F97 : Fld Z T75.heap b37 "com/example/zhengzi/zhengzi/CorrectionScore" "falseNegatives" "J" (.long y3) := F59.keep K75 nin0
  have F98 : Fld Z T75.heap b37 "com/example/zhengzi/zhengzi/CorrectionScore" "trueNegatives" "J" (.long y4) := F60.keep K75 nin0
  have Z75 : n0 ≤ T75.heap.size := Nat.le_trans Z55 K75.1
  have N75 := Fr.app N55 N75q
  obtain ⟨v130, hv130⟩ : ∃ w : Int64, w = (((y1 + y2) + y3) + y4) := ⟨_, rfl⟩
  have pre99 : ∀ t, Steps p.tables e below (T75.setTop (mkF m 132 #[.val (.long y1), .second, .val (.long y2), .second, .val (.long y3), .second, .val (.long y4), .second, .val (.int y5), .val (.int y6), .val (.int v7), .val (.int xm), .val (.int v39), .val (.int xp), .val (.ref b7xs), .val (.ref b13xs), .val (.ref b23xs), .val (.ref b37), .val (.ref b75xn), .val (.long v130), .second] [])) t → Steps p.tables e below (s₁.setTop (entryFrame m #[(.long y1), (.long y2), (.long y3), (.long y4), (.int y5), (.int y6)] maxLocals)) t := by
    intro t k
    rw [hv130] at k
    refine pre6 _ ?_
    show Steps p.tables e below (s₁.setTop (mkF m 72 #[.val (.long y1), .second, .val (.long y2), .second, .val (.long y3), .second, .val (.long y4), .second, .val (.int y5), .val (.int y6), .val (.int v7), .val (.int xm), .val (.int v39), .unset, .unset, .unset, .unset, .unset, .unset, .unset, .unset] [(.int xp)])) _
    refine XS.istore X0.here hx rfl (hb hby at_72) rfl (l' := #[.val (.long y1), .second, .val (.long y2), .second, .val (.long y3), .second, .val (.long y4), .second, .val (.int y5), .val (.int y6), .val (.int v7), .val (.int xm), .val (.int v39), .val (.int xp), .unset, .unset, .unset, .unset, .unset, .unset, .unset]) rfl ?_
    show Steps p.tables e below (s₁.setTop (mkF m 74 #[.val (.long y1), .second, .val (.long y2), .second, .val (.long y3), .second, .val (.long y4), .second, .val (.int y5), .val (.int y6), .val (.int v7), .val (.int xm), .val (.int v39), .val (.int xp), .unset, .unset, .unset, .unset, .unset, .unset, .unset] [])) _
    refine XS.iload X0.here hx rfl (hb hby at_74) rfl ?_
    show Steps p.tables e below (s₁.setTop (mkF m 76 #[.val (.long y1), .second, .val (.long y2), .second, .val (.long y3), .second, .val (.long y4), .second, .val (.int y5), .val (.int y6), .val (.int v7), .val (.int xm), .val (.int v39), .val (.int xp), .unset, .unset, .unset, .unset, .unset, .unset, .unset] [(.int v7)])) _
    refine st7 _ ?_
    show Steps p.tables e below (T7.setTop (mkF m 79 #[.val (.long y1), .second, .val (.long y2), .second, .val (.long y3), .second, .val (.long y4), .second, .val (.int y5), .val (.int y6), .val (.int v7), .val (.int xm), .val (.int v39), .val (.int xp), .unset, .unset, .unset, .unset, .unset, .unset, .unset] [(.ref b7xs)])) _
    refine XS.astore X7.here hx rfl (hb hby at_79) rfl rfl (l' := #[.val (.long y1), .second, .val (.long y2), .second, .val (.long y3), .second, .val (.long y4), .second, .val (.int y5), .val (.int y6), .val (.int v7), .val (.int xm), .val (.int v39), .val (.int xp), .val (.ref b7xs), .unset, .unset, .unset, .unset, .unset, .unset]) rfl ?_
    show Steps p.tables e below (T7.setTop (mkF m 81 #[.val (.long y1), .second, .val (.long y2), .second, .val (.long y3), .second, .val (.long y4), .second, .val (.int y5), .val (.int y6), .val (.int v7), .val (.int xm), .val (.int v39), .val (.int xp), .val (.ref b7xs), .unset, .unset, .unset, .unset, .unset, .unset] [])) _
    refine XS.iload X7.here hx rfl (hb hby at_81) rfl ?_
    show Steps p.tables e below (T7.setTop (mkF m 83 #[.val (.long y1), .second, .val (.long y2), .second, .val (.long y3), .second, .val (.long y4), .second, .val (.int y5), .val (.int y6), .val (.int v7), .val (.int xm), .val (.int v39), .val (.int xp), .val (.ref b7xs), .unset, .unset, .unset, .unset, .unset, .unset] [(.int xm)])) _
    refine st13 _ ?_
    show Steps p.tables e below (T13.setTop (mkF m 86 #[.val (.long y1), .second, .val (.long y2), .second, .val (.long y3), .second, .val (.long y4), .second, .val (.int y5), .val (.int y6), .val (.int v7), .val (.int xm), .val (.int v39), .val (.int xp), .val (.ref b7xs), .unset, .unset, .unset, .unset, .unset, .unset] [(.ref b13xs)])) _
    refine XS.astore X13.here hx rfl (hb hby at_86) rfl rfl (l' := #[.val (.long y1), .second, .val (.long y2), .second, .val (.long y3), .second, .val (.long y4), .second, .val (.int y5), .val (.int y6), .val (.int v7), .val (.int xm), .val (.int v39), .val (.int xp), .val (.ref b7xs), .val (.ref b13xs), .unset, .unset, .unset, .unset, .unset]) rfl ?_
    show Steps p.tables e below (T13.setTop (mkF m 88 #[.val (.long y1), .second, .val (.long y2), .second, .val (.long y3), .second, .val (.long y4), .second, .val (.int y5), .val (.int y6), .val (.int v7), .val (.int xm), .val (.int v39), .val (.int xp), .val (.ref b7xs), .val (.ref b13xs), .unset, .unset, .unset, .unset, .unset] [])) _
    refine XS.iload X13.here hx rfl (hb hby at_88) rfl ?_
    show Steps p.tables e below (T13.setTop (mkF m 90 #[.val (.long y1), .second, .val (.long y2), .second, .val (.long y3), .second, .val (.long y4), .second, .val (.int y5), .val (.int y6), .val (.int v7), .val (.int xm), .val (.int v39), .val (.int xp), .val (.ref b7xs), .val (.ref b13xs), .unset, .unset, .unset, .unset, .unset] [(.int xp)])) _
    refine st23 _ ?_
    show Steps p.tables e below (T23.setTop (mkF m 93 #[.val (.long y1), .second, .val (.long y2), .second, .val (.long y3), .second, .val (.long y4), .second, .val (.int y5), .val (.int y6), .val (.int v7), .val (.int xm), .val (.int v39), .val (.int xp), .val (.ref b7xs), .val (.ref b13xs), .unset, .unset, .unset, .unset, .unset] [(.ref b23xs)])) _
    refine XS.astore X23.here hx rfl (hb hby at_93) rfl rfl (l' := #[.val (.long y1), .second, .val (.long y2), .second, .val (.long y3), .second, .val (.long y4), .second, .val (.int y5), .val (.int y6), .val (.int v7), .val (.int xm), .val (.int v39), .val (.int xp), .val (.ref b7xs), .val (.ref b13xs), .val (.ref b23xs), .unset, .unset, .unset, .unset]) rfl ?_
    show Steps p.tables e below (T23.setTop (mkF m 95 #[.val (.long y1), .second, .val (.long y2), .second, .val (.long y3), .second, .val (.long y4), .second, .val (.int y5), .val (.int y6), .val (.int v7), .val (.int xm), .val (.int v39), .val (.int xp), .val (.ref b7xs), .val (.ref b13xs), .val (.ref b23xs), .unset, .unset, .unset, .unset] [])) _
    refine st37 _ ?_
    show Steps p.tables e below (T37.setTop (mkF m 98 #[.val (.long y1), .second, .val (.long y2), .second, .val (.long y3), .second, .val (.long y4), .second, .val (.int y5), .val (.int y6), .val (.int v7), .val (.int xm), .val (.int v39), .val (.int xp), .val (.ref b7xs), .val (.ref b13xs), .val (.ref b23xs), .unset, .unset, .unset, .unset] [(.ref b37)])) _
    refine XS.dup X37.here hx rfl (hb hby at_98) rfl rfl ?_
    show Steps p.tables e below (T37.setTop (mkF m 99 #[.val (.long y1), .second, .val (.long y2), .second, .val (.long y3), .second, .val (.long y4), .second, .val (.int y5), .val (.int y6), .val (.int v7), .val (.int xm), .val (.int v39), .val (.int xp), .val (.ref b7xs), .val (.ref b13xs), .val (.ref b23xs), .unset, .unset, .unset, .unset] [(.ref b37), (.ref b37)])) _
    refine XS.lloadN X37.here hx rfl (hb hby at_99) rfl ?_
    show Steps p.tables e below (T37.setTop (mkF m 100 #[.val (.long y1), .second, .val (.long y2), .second, .val (.long y3), .second, .val (.long y4), .second, .val (.int y5), .val (.int y6), .val (.int v7), .val (.int xm), .val (.int v39), .val (.int xp), .val (.ref b7xs), .val (.ref b13xs), .val (.ref b23xs), .unset, .unset, .unset, .unset] [(.long y1), (.ref b37), (.ref b37)])) _
    refine XS.lloadN X37.here hx rfl (hb hby at_100) rfl ?_
    show Steps p.tables e below (T37.setTop (mkF m 101 #[.val (.long y1), .second, .val (.long y2), .second, .val (.long y3), .second, .val (.long y4), .second, .val (.int y5), .val (.int y6), .val (.int v7), .val (.int xm), .val (.int v39), .val (.int xp), .val (.ref b7xs), .val (.ref b13xs), .val (.ref b23xs), .unset, .unset, .unset, .unset] [(.long y2), (.long y1), (.ref b37), (.ref b37)])) _
    refine XS.lload X37.here hx rfl (hb hby at_101) rfl ?_
    show Steps p.tables e below (T37.setTop (mkF m 103 #[.val (.long y1), .second, .val (.long y2), .second, .val (.long y3), .second, .val (.long y4), .second, .val (.int y5), .val (.int y6), .val (.int v7), .val (.int xm), .val (.int v39), .val (.int xp), .val (.ref b7xs), .val (.ref b13xs), .val (.ref b23xs), .unset, .unset, .unset, .unset] [(.long y3), (.long y2), (.long y1), (.ref b37), (.ref b37)])) _
    refine XS.lload X37.here hx rfl (hb hby at_103) rfl ?_
    show Steps p.tables e below (T37.setTop (mkF m 105 #[.val (.long y1), .second, .val (.long y2), .second, .val (.long y3), .second, .val (.long y4), .second, .val (.int y5), .val (.int y6), .val (.int v7), .val (.int xm), .val (.int v39), .val (.int xp), .val (.ref b7xs), .val (.ref b13xs), .val (.ref b23xs), .unset, .unset, .unset, .unset] [(.long y4), (.long y3), (.long y2), (.long y1), (.ref b37), (.ref b37)])) _
    refine st55.trans ?_
    show Steps p.tables e below (T55.setTop (mkF m 108 #[.val (.long y1), .second, .val (.long y2), .second, .val (.long y3), .second, .val (.long y4), .second, .val (.int y5), .val (.int y6), .val (.int v7), .val (.int xm), .val (.int v39), .val (.int xp), .val (.ref b7xs), .val (.ref b13xs), .val (.ref b23xs), .unset, .unset, .unset, .unset] [(.ref b37)])) _
    refine XS.astore X55.here hx rfl (hb hby at_108) rfl rfl (l' := #[.val (.long y1), .second, .val (.long y2), .second, .val (.long y3), .second, .val (.long y4), .second, .val (.int y5), .val (.int y6), .val (.int v7), .val (.int xm), .val (.int v39), .val (.int xp), .val (.ref b7xs), .val (.ref b13xs), .val (.ref b23xs), .val (.ref b37), .unset, .unset, .unset]) rfl ?_
    show Steps p.tables e below (T55.setTop (mkF m 110 #[.val (.long y1), .second, .val (.long y2), .second, .val (.long y3), .second, .val (.long y4), .second, .val (.int y5), .val (.int y6), .val (.int v7), .val (.int xm), .val (.int v39), .val (.int xp), .val (.ref b7xs), .val (.ref b13xs), .val (.ref b23xs), .val (.ref b37), .unset, .unset, .unset] [])) _
    refine XS.aload X55.here hx rfl (hb hby at_110) rfl rfl ?_
    show Steps p.tables e below (T55.setTop (mkF m 112 #[.val (.long y1), .second, .val (.long y2), .second, .val (.long y3), .second, .val (.long y4), .second, .val (.int y5), .val (.int y6), .val (.int v7), .val (.int xm), .val (.int v39), .val (.int xp), .val (.ref b7xs), .val (.ref b13xs), .val (.ref b23xs), .val (.ref b37), .unset, .unset, .unset] [(.ref b7xs)])) _
    refine XS.aload X55.here hx rfl (hb hby at_112) rfl rfl ?_
    show Steps p.tables e below (T55.setTop (mkF m 114 #[.val (.long y1), .second, .val (.long y2), .second, .val (.long y3), .second, .val (.long y4), .second, .val (.int y5), .val (.int y6), .val (.int v7), .val (.int xm), .val (.int v39), .val (.int xp), .val (.ref b7xs), .val (.ref b13xs), .val (.ref b23xs), .val (.ref b37), .unset, .unset, .unset] [(.ref b13xs), (.ref b7xs)])) _
    refine XS.aload X55.here hx rfl (hb hby at_114) rfl rfl ?_
    show Steps p.tables e below (T55.setTop (mkF m 116 #[.val (.long y1), .second, .val (.long y2), .second, .val (.long y3), .second, .val (.long y4), .second, .val (.int y5), .val (.int y6), .val (.int v7), .val (.int xm), .val (.int v39), .val (.int xp), .val (.ref b7xs), .val (.ref b13xs), .val (.ref b23xs), .val (.ref b37), .unset, .unset, .unset] [(.ref b23xs), (.ref b13xs), (.ref b7xs)])) _
    refine st75 _ ?_
    show Steps p.tables e below (T75.setTop (mkF m 119 #[.val (.long y1), .second, .val (.long y2), .second, .val (.long y3), .second, .val (.long y4), .second, .val (.int y5), .val (.int y6), .val (.int v7), .val (.int xm), .val (.int v39), .val (.int xp), .val (.ref b7xs), .val (.ref b13xs), .val (.ref b23xs), .val (.ref b37), .unset, .unset, .unset] [(.ref b75xn)])) _
    refine XS.astore X75.here hx rfl (hb hby at_119) rfl rfl (l' := #[.val (.long y1), .second, .val (.long y2), .second, .val (.long y3), .second, .val (.long y4), .second, .val (.int y5), .val (.int y6), .val (.int v7), .val (.int xm), .val (.int v39), .val (.int xp), .val (.ref b7xs), .val (.ref b13xs), .val (.ref b23xs), .val (.ref b37), .val (.ref b75xn), .unset, .unset]) rfl ?_
    show Steps p.tables e below (T75.setTop (mkF m 121 #[.val (.long y1), .second, .val (.long y2), .second, .val (.long y3), .second, .val (.long y4), .second, .val (.int y5), .val (.int y6), .val (.int v7), .val (.int xm), .val (.int v39), .val (.int xp), .val (.ref b7xs), .val (.ref b13xs), .val (.ref b23xs), .val (.ref b37), .val (.ref b75xn), .unset, .unset] [])) _
    refine XS.lloadN X75.here hx rfl (hb hby at_121) rfl ?_
    show Steps p.tables e below (T75.setTop (mkF m 122 #[.val (.long y1), .second, .val (.long y2), .second, .val (.long y3), .second, .val (.long y4), .second, .val (.int y5), .val (.int y6), .val (.int v7), .val (.int xm), .val (.int v39), .val (.int xp), .val (.ref b7xs), .val (.ref b13xs), .val (.ref b23xs), .val (.ref b37), .val (.ref b75xn), .unset, .unset] [(.long y1)])) _
    refine XS.lloadN X75.here hx rfl (hb hby at_122) rfl ?_
    show Steps p.tables e below (T75.setTop (mkF m 123 #[.val (.long y1), .second, .val (.long y2), .second, .val (.long y3), .second, .val (.long y4), .second, .val (.int y5), .val (.int y6), .val (.int v7), .val (.int xm), .val (.int v39), .val (.int xp), .val (.ref b7xs), .val (.ref b13xs), .val (.ref b23xs), .val (.ref b37), .val (.ref b75xn), .unset, .unset] [(.long y2), (.long y1)])) _
    refine XS.ladd X75.here hx rfl (hb hby at_123) rfl ?_
    show Steps p.tables e below (T75.setTop (mkF m 124 #[.val (.long y1), .second, .val (.long y2), .second, .val (.long y3), .second, .val (.long y4), .second, .val (.int y5), .val (.int y6), .val (.int v7), .val (.int xm), .val (.int v39), .val (.int xp), .val (.ref b7xs), .val (.ref b13xs), .val (.ref b23xs), .val (.ref b37), .val (.ref b75xn), .unset, .unset] [(.long (y1 + y2))])) _
    refine XS.lload X75.here hx rfl (hb hby at_124) rfl ?_
    show Steps p.tables e below (T75.setTop (mkF m 126 #[.val (.long y1), .second, .val (.long y2), .second, .val (.long y3), .second, .val (.long y4), .second, .val (.int y5), .val (.int y6), .val (.int v7), .val (.int xm), .val (.int v39), .val (.int xp), .val (.ref b7xs), .val (.ref b13xs), .val (.ref b23xs), .val (.ref b37), .val (.ref b75xn), .unset, .unset] [(.long y3), (.long (y1 + y2))])) _
    refine XS.ladd X75.here hx rfl (hb hby at_126) rfl ?_
    show Steps p.tables e below (T75.setTop (mkF m 127 #[.val (.long y1), .second, .val (.long y2), .second, .val (.long y3), .second, .val (.long y4), .second, .val (.int y5), .val (.int y6), .val (.int v7), .val (.int xm), .val (.int v39), .val (.int xp), .val (.ref b7xs), .val (.ref b13xs), .val (.ref b23xs), .val (.ref b37), .val (.ref b75xn), .unset, .unset] [(.long ((y1 + y2) + y3))])) _
    refine XS.lload X75.here hx rfl (hb hby at_127) rfl ?_
    show Steps p.tables e below (T75.setTop (mkF m 129 #[.val (.long y1), .second, .val (.long y2), .second, .val (.long y3), .second, .val (.long y4), .second, .val (.int y5), .val (.int y6), .val (.int v7), .val (.int xm), .val (.int v39), .val (.int xp), .val (.ref b7xs), .val (.ref b13xs), .val (.ref b23xs), .val (.ref b37), .val (.ref b75xn), .unset, .unset] [(.long y4), (.long ((y1 + y2) + y3))])) _
    refine XS.ladd X75.here hx rfl (hb hby at_129) rfl ?_
    show Steps p.tables e below (T75.setTop (mkF m 130 #[.val (.long y1), .second, .val (.long y2), .second, .val (.long y3), .second, .val (.long y4), .second, .val (.int y5), .val (.int y6), .val (.int v7), .val (.int xm), .val (.int v39), .val (.int xp), .val (.ref b7xs), .val (.ref b13xs), .val (.ref b23xs), .val (.ref b37), .val (.ref b75xn), .unset, .unset] [(.long (((y1 + y2) + y3) + y4))])) _
    refine XS.lstore X75.here hx rfl (hb hby at_130) rfl (l' := #[.val (.long y1), .second, .val (.long y2), .second, .val (.long y3), .second, .val (.long y4), .second, .val (.int y5), .val (.int y6), .val (.int v7), .val (.int xm), .val (.int v39), .val (.int xp), .val (.ref b7xs), .val (.ref b13xs), .val (.ref b23xs), .val (.ref b37), .val (.ref b75xn), .val (.long (((y1 + y2) + y3) + y4)), .second]) rfl ?_
    exact k
  obtain ⟨cq100, kq100, q100a, q100b, q100c⟩ := isOf hZ rfl F94
  obtain ⟨_, _, ⟨T100, L100, k100, n100⟩, -, X100, ⟨Lc100, hQ100, l100, y100, z100⟩, st100⟩ := X75.virtualBack hx (y := (⟨"com/example/zhengzi/zhengzi/CorrectionScore", "pairs", "()J"⟩ : MethodName)) (z := (⟨"com/example/zhengzi/zhengzi/CorrectionScore", "pairs", "()J"⟩ : MethodName)) hown (mvT hZ (hw _ (List.mem_of_getElem? (i := 59) rfl))) (mvT hZ (hw _ (List.mem_of_getElem? (i := 60) rfl))) (notFace_of_selects (args := #[]) (mvT hZ (hw _ (List.mem_of_getElem? (i := 62) rfl)))) (mvT hZ (hw _ (List.mem_of_getElem? (i := 62) rfl))) (mvT hZ (hw _ (List.mem_of_getElem? (i := 61) rfl))) (by decide) (backOf (W := 0) (own_rm11 l Z a0 hw [] b37 y1 y2 y3 y4 T75.heap n0 Z75 F95 F96 F97 F98) hZ (hw _ (List.mem_of_getElem? (i := 63) rfl)) (hw _ (List.mem_of_getElem? (i := 28) rfl)) (by decide) (by decide)) q100a q100c (g := (mkF m 134 #[.val (.long y1), .second, .val (.long y2), .second, .val (.long y3), .second, .val (.long y4), .second, .val (.int y5), .val (.int y6), .val (.int v7), .val (.int xm), .val (.int v39), .val (.int xp), .val (.ref b7xs), .val (.ref b13xs), .val (.ref b23xs), .val (.ref b37), .val (.ref b75xn), .val (.long v130), .second] [(.ref b37)])) rfl (by rw [hml]; rfl) (Steps.refl _) (argsL := []) (rest := []) (lenOf own_pd9 rfl) rfl (by show 2 * 0 + _ ≤ _; exact Nat.le_of_eq rfl) (hb hby at_134) (fun _ _ => ⟨rfl, rfl, (by decide : 8 + 0 ≤ _), (by decide : 23 + 0 ≤ _)⟩)
  dsimp only [Pt.U, Pt.locs, Pt.cells, Pt.slots] at X100 l100 y100 z100 st100 hQ100
  subst l100 y100 z100
  obtain ⟨rfl, N100q, eh100⟩ := hQ100
  have N100 := Fr.app N75 N100q
  have hd101 : (((y1 + y2) + y3) + y4) = v130 := (by rw [hv130])
  obtain ⟨cq102, kq102, q102a, q102b, q102c⟩ := isOf hZ eh100 F76
  obtain ⟨_, _, ⟨T102, L102, k102, n102⟩, -, X102, ⟨Lc102, hQ102, l102, y102, z102⟩, st102⟩ := X100.virtualBack hx (y := (⟨"com/example/zhengzi/zhengzi/CorrectionScore", "pairs", "()J"⟩ : MethodName)) (z := (⟨"com/example/zhengzi/zhengzi/CorrectionScore", "pairs", "()J"⟩ : MethodName)) hown (mvT hZ (hw _ (List.mem_of_getElem? (i := 59) rfl))) (mvT hZ (hw _ (List.mem_of_getElem? (i := 60) rfl))) (notFace_of_selects (args := #[]) (mvT hZ (hw _ (List.mem_of_getElem? (i := 62) rfl)))) (mvT hZ (hw _ (List.mem_of_getElem? (i := 62) rfl))) (mvT hZ (hw _ (List.mem_of_getElem? (i := 61) rfl))) (by decide) (backOf (W := 0) (own_rm11 l Z a0 hw [] b75xn (own_tp ((v7.toInt8.toInt32).toInt8.toInt32) ((xm.toInt8.toInt32).toInt8.toInt32) ((xp.toInt8.toInt32).toInt8.toInt32)) (own_fp ((v7.toInt8.toInt32).toInt8.toInt32) ((xm.toInt8.toInt32).toInt8.toInt32) ((xp.toInt8.toInt32).toInt8.toInt32)) (own_fn ((v7.toInt8.toInt32).toInt8.toInt32) ((xm.toInt8.toInt32).toInt8.toInt32) ((xp.toInt8.toInt32).toInt8.toInt32)) (own_tn ((v7.toInt8.toInt32).toInt8.toInt32) ((xm.toInt8.toInt32).toInt8.toInt32) ((xp.toInt8.toInt32).toInt8.toInt32)) T75.heap n0 Z75 F77 F78 F79 F80) hZ (hw _ (List.mem_of_getElem? (i := 63) rfl)) (hw _ (List.mem_of_getElem? (i := 28) rfl)) (by decide) (by decide)) q102a q102c (g := (mkF m 145 #[.val (.long y1), .second, .val (.long y2), .second, .val (.long y3), .second, .val (.long y4), .second, .val (.int y5), .val (.int y6), .val (.int v7), .val (.int xm), .val (.int v39), .val (.int xp), .val (.ref b7xs), .val (.ref b13xs), .val (.ref b23xs), .val (.ref b37), .val (.ref b75xn), .val (.long v130), .second] [(.ref b75xn)])) rfl (by rw [hml]; rfl) (Steps.refl _) (argsL := []) (rest := []) (lenOf own_pd9 rfl) rfl (by show 2 * 0 + _ ≤ _; exact Nat.le_of_eq rfl) (hb hby at_145) (fun _ _ => ⟨rfl, eh100, (by decide : 8 + 0 ≤ _), (by decide : 23 + 0 ≤ _)⟩)
  dsimp only [Pt.U, Pt.locs, Pt.cells, Pt.slots] at X102 l102 y102 z102 st102 hQ102
  subst l102 y102 z102
  obtain ⟨rfl, N102q, eh102⟩ := hQ102
  have N102 := Fr.app N100 N102q
  have hd103 : ((((own_tp ((v7.toInt8.toInt32).toInt8.toInt32) ((xm.toInt8.toInt32).toInt8.toInt32) ((xp.toInt8.toInt32).toInt8.toInt32)) + (own_fp ((v7.toInt8.toInt32).toInt8.toInt32) ((xm.toInt8.toInt32).toInt8.toInt32) ((xp.toInt8.toInt32).toInt8.toInt32))) + (own_fn ((v7.toInt8.toInt32).toInt8.toInt32) ((xm.toInt8.toInt32).toInt8.toInt32) ((xp.toInt8.toInt32).toInt8.toInt32))) + (own_tn ((v7.toInt8.toInt32).toInt8.toInt32) ((xm.toInt8.toInt32).toInt8.toInt32) ((xp.toInt8.toInt32).toInt8.toInt32))) = (1 : Int64) := (own_one _ _ _)
  obtain ⟨cq104, kq104, q104a, q104b, q104c⟩ := isOf hZ eh102 F94
  obtain ⟨_, _, ⟨T104, L104, k104, n104⟩, -, X104, ⟨Lc104, hQ104, l104, y104, z104⟩, st104⟩ := X102.virtualBack hx (y := (⟨"com/example/zhengzi/zhengzi/CorrectionScore", "plus", "(Lcom/example/zhengzi/zhengzi/CorrectionScore;)Lcom/example/zhengzi/zhengzi/CorrectionScore;"⟩ : MethodName)) (z := (⟨"com/example/zhengzi/zhengzi/CorrectionScore", "plus", "(Lcom/example/zhengzi/zhengzi/CorrectionScore;)Lcom/example/zhengzi/zhengzi/CorrectionScore;"⟩ : MethodName)) hown (mvT hZ (hw _ (List.mem_of_getElem? (i := 64) rfl))) (mvT hZ (hw _ (List.mem_of_getElem? (i := 65) rfl))) (notFace_of_selects (args := #[]) (mvT hZ (hw _ (List.mem_of_getElem? (i := 67) rfl)))) (mvT hZ (hw _ (List.mem_of_getElem? (i := 67) rfl))) (mvT hZ (hw _ (List.mem_of_getElem? (i := 66) rfl))) (by decide) (backOf (W := 0) (own_rm12 l Z a0 hw [] b37 b75xn y1 y2 y3 y4 (own_tp ((v7.toInt8.toInt32).toInt8.toInt32) ((xm.toInt8.toInt32).toInt8.toInt32) ((xp.toInt8.toInt32).toInt8.toInt32)) (own_fp ((v7.toInt8.toInt32).toInt8.toInt32) ((xm.toInt8.toInt32).toInt8.toInt32) ((xp.toInt8.toInt32).toInt8.toInt32)) (own_fn ((v7.toInt8.toInt32).toInt8.toInt32) ((xm.toInt8.toInt32).toInt8.toInt32) ((xp.toInt8.toInt32).toInt8.toInt32)) (own_tn ((v7.toInt8.toInt32).toInt8.toInt32) ((xm.toInt8.toInt32).toInt8.toInt32) ((xp.toInt8.toInt32).toInt8.toInt32)) T75.heap n0 Z75 F95 F96 F97 F98 F77 F78 F79 F80) hZ (hw _ (List.mem_of_getElem? (i := 68) rfl)) (hw _ (List.mem_of_getElem? (i := 28) rfl)) (by decide) (by decide)) q104a q104c (g := (mkF m 157 #[.val (.long y1), .second, .val (.long y2), .second, .val (.long y3), .second, .val (.long y4), .second, .val (.int y5), .val (.int y6), .val (.int v7), .val (.int xm), .val (.int v39), .val (.int xp), .val (.ref b7xs), .val (.ref b13xs), .val (.ref b23xs), .val (.ref b37), .val (.ref b75xn), .val (.long v130), .second] [(.ref b75xn), (.ref b37)])) rfl (by rw [hml]; rfl) (Steps.refl _) (argsL := [(.ref b75xn)]) (rest := []) (lenOf own_pd10 rfl) rfl (by show 2 * 0 + _ ≤ _; exact Nat.le_of_eq rfl) (hb hby at_157) (fun _ _ => ⟨rfl, eh102, (by decide : 8 + 1 ≤ _), (by decide : 23 + 4 ≤ _)⟩)
  dsimp only [Pt.U, Pt.locs, Pt.cells, Pt.slots] at X104 l104 y104 z104 st104 hQ104
  subst l104 y104 z104
  obtain ⟨b104xn, rfl, N104q, K104q, sz0_b104xn, lt_b104xn, F105, F106, F107, F108, F109⟩ := hQ104
  have K104 := K104q
  have ne_b7xs_b104xn : b7xs ≠ b104xn := Nat.ne_of_lt (Nat.lt_of_lt_of_le F84.lt sz0_b104xn)
  have ne_b7xv_b104xn : b7xv ≠ b104xn := Nat.ne_of_lt (Nat.lt_of_lt_of_le F85.lt sz0_b104xn)
  have ne_b13xs_b104xn : b13xs ≠ b104xn := Nat.ne_of_lt (Nat.lt_of_lt_of_le F88.lt sz0_b104xn)
  have ne_b13xv_b104xn : b13xv ≠ b104xn := Nat.ne_of_lt (Nat.lt_of_lt_of_le F89.lt sz0_b104xn)
  have ne_b23xs_b104xn : b23xs ≠ b104xn := Nat.ne_of_lt (Nat.lt_of_lt_of_le F92.lt sz0_b104xn)
  have ne_b23xv_b104xn : b23xv ≠ b104xn := Nat.ne_of_lt (Nat.lt_of_lt_of_le F93.lt sz0_b104xn)
  have ne_b37_b104xn : b37 ≠ b104xn := Nat.ne_of_lt (Nat.lt_of_lt_of_le F98.lt sz0_b104xn)
  have ne_b75xn_b104xn : b75xn ≠ b104xn := Nat.ne_of_lt (Nat.lt_of_lt_of_le F80.lt sz0_b104xn)
  have g_b104xn : n0 ≤ b104xn := Nat.le_trans Z75 sz0_b104xn
  have sz_b104xn : h0.size ≤ b104xn := Nat.le_trans KK75.1 sz0_b104xn
  have KK104 : Keep h0 T104.heap [] := KK75.trans K104 all0
  have F110 : Sta Z T104.heap "java/lang/String" "COMPACT_STRINGS" "Z" (.int xcs) := S_CS.ext (own_ext KK104)
  have F111 : Exa Z T104.heap b7xs "java/lang/String" := F82.keep K104
  have F112 : Fld Z T104.heap b7xs "java/lang/String" "value" "[B" (.ref b7xv) := F83.keep K104 nin0
  have F113 : Fld Z T104.heap b7xs "java/lang/String" "coder" "B" (.int (0 : Int32)) := F84.keep K104 nin0
  have F114 : Arv Z T104.heap b7xv g7xk .byte (1 : Int32) [(.int ((v7.toInt8.toInt32).toInt8.toInt32))] (.int (0 : Int32)) := F85.keep K104 nin0
  have F115 : Exa Z T104.heap b13xs "java/lang/String" := F86.keep K104
  have F116 : Fld Z T104.heap b13xs "java/lang/String" "value" "[B" (.ref b13xv) := F87.keep K104 nin0
  have F117 : Fld Z T104.heap b13xs "java/lang/String" "coder" "B" (.int (0 : Int32)) := F88.keep K104 nin0
  have F118 : Arv Z T104.heap b13xv g13xk .byte (1 : Int32) [(.int ((xm.toInt8.toInt32).toInt8.toInt32))] (.int (0 : Int32)) := F89.keep K104 nin0
  have F119 : Exa Z T104.heap b23xs "java/lang/String" := F90.keep K104
  have F120 : Fld Z T104.heap b23xs "java/lang/String" "value" "[B" (.ref b23xv) := F91.keep K104 nin0
  have F121 : Fld Z T104.heap b23xs "java/lang/String" "coder" "B" (.int (0 : Int32)) := F92.keep K104 nin0
  have F122 : Arv Z T104.heap b23xv g23xk .byte (1 : Int32) [(.int ((xp.toInt8.toInt32).toInt8.toInt32))] (.int (0 : Int32)) := F93.keep K104 nin0
  have F123 : Exa Z T104.heap b37 "com/example/zhengzi/zhengzi/CorrectionScore" := F94.keep K104
  have F124 : Fld Z T104.heap b37 "com/example/zhengzi/zhengzi/CorrectionScore" "truePositives" "J" (.long y1) := F95.keep K104 nin0
  have F125 : Fld Z T104.heap b37 "com/example/zhengzi/zhengzi/CorrectionScore" "falsePositives" "J" (.long y2) := F96.keep K104 nin0
  have F126 : Fld Z T104.heap b37 "com/example/zhengzi/zhengzi/CorrectionScore" "falseNegatives" "J" (.long y3) := F97.keep K104 nin0
  have F127 : Fld Z T104.heap b37 "com/example/zhengzi/zhengzi/CorrectionScore" "trueNegatives" "J" (.long y4) := F98.keep K104 nin0
  have F128 : Exa Z T104.heap b75xn "com/example/zhengzi/zhengzi/CorrectionScore" := F76.keep K104
  have F129 : Fld Z T104.heap b75xn "com/example/zhengzi/zhengzi/CorrectionScore" "truePositives" "J" (.long (own_tp ((v7.toInt8.toInt32).toInt8.toInt32) ((xm.toInt8.toInt32).toInt8.toInt32) ((xp.toInt8.toInt32).toInt8.toInt32))) := F77.keep K104 nin0
  have F130 : Fld Z T104.heap b75xn "com/example/zhengzi/zhengzi/CorrectionScore" "falsePositives" "J" (.long (own_fp ((v7.toInt8.toInt32).toInt8.toInt32) ((xm.toInt8.toInt32).toInt8.toInt32) ((xp.toInt8.toInt32).toInt8.toInt32))) := F78.keep K104 nin0
  have F131 : Fld Z T104.heap b75xn "com/example/zhengzi/zhengzi/CorrectionScore" "falseNegatives" "J" (.long (own_fn ((v7.toInt8.toInt32).toInt8.toInt32) ((xm.toInt8.toInt32).toInt8.toInt32) ((xp.toInt8.toInt32).toInt8.toInt32))) := F79.keep K104 nin0
  have F132 : Fld Z T104.heap b75xn "com/example/zhengzi/zhengzi/CorrectionScore" "trueNegatives" "J" (.long (own_tn ((v7.toInt8.toInt32).toInt8.toInt32) ((xm.toInt8.toInt32).toInt8.toInt32) ((xp.toInt8.toInt32).toInt8.toInt32))) := F80.keep K104 nin0
  have Z104 : n0 ≤ T104.heap.size := Nat.le_trans Z75 K104.1
  have N104 := Fr.app N102 N104q
  obtain ⟨cq133, kq133, q133a, q133b, q133c⟩ := isOf hZ rfl F105
  obtain ⟨_, _, ⟨T133, L133, k133, n133⟩, -, X133, ⟨Lc133, hQ133, l133, y133, z133⟩, st133⟩ := X104.virtualBack hx (y := (⟨"com/example/zhengzi/zhengzi/CorrectionScore", "pairs", "()J"⟩ : MethodName)) (z := (⟨"com/example/zhengzi/zhengzi/CorrectionScore", "pairs", "()J"⟩ : MethodName)) hown (mvT hZ (hw _ (List.mem_of_getElem? (i := 59) rfl))) (mvT hZ (hw _ (List.mem_of_getElem? (i := 60) rfl))) (notFace_of_selects (args := #[]) (mvT hZ (hw _ (List.mem_of_getElem? (i := 62) rfl)))) (mvT hZ (hw _ (List.mem_of_getElem? (i := 62) rfl))) (mvT hZ (hw _ (List.mem_of_getElem? (i := 61) rfl))) (by decide) (backOf (W := 0) (own_rm11 l Z a0 hw [] b104xn (y1 + (own_tp ((v7.toInt8.toInt32).toInt8.toInt32) ((xm.toInt8.toInt32).toInt8.toInt32) ((xp.toInt8.toInt32).toInt8.toInt32))) (y2 + (own_fp ((v7.toInt8.toInt32).toInt8.toInt32) ((xm.toInt8.toInt32).toInt8.toInt32) ((xp.toInt8.toInt32).toInt8.toInt32))) (y3 + (own_fn ((v7.toInt8.toInt32).toInt8.toInt32) ((xm.toInt8.toInt32).toInt8.toInt32) ((xp.toInt8.toInt32).toInt8.toInt32))) (y4 + (own_tn ((v7.toInt8.toInt32).toInt8.toInt32) ((xm.toInt8.toInt32).toInt8.toInt32) ((xp.toInt8.toInt32).toInt8.toInt32))) T104.heap n0 Z104 F106 F107 F108 F109) hZ (hw _ (List.mem_of_getElem? (i := 63) rfl)) (hw _ (List.mem_of_getElem? (i := 28) rfl)) (by decide) (by decide)) q133a q133c (g := (mkF m 160 #[.val (.long y1), .second, .val (.long y2), .second, .val (.long y3), .second, .val (.long y4), .second, .val (.int y5), .val (.int y6), .val (.int v7), .val (.int xm), .val (.int v39), .val (.int xp), .val (.ref b7xs), .val (.ref b13xs), .val (.ref b23xs), .val (.ref b37), .val (.ref b75xn), .val (.long v130), .second] [(.ref b104xn)])) rfl (by rw [hml]; rfl) (Steps.refl _) (argsL := []) (rest := []) (lenOf own_pd9 rfl) rfl (by show 2 * 0 + _ ≤ _; exact Nat.le_of_eq rfl) (hb hby at_160) (fun _ _ => ⟨rfl, rfl, (by decide : 9 + 0 ≤ _), (by decide : 27 + 0 ≤ _)⟩)
  dsimp only [Pt.U, Pt.locs, Pt.cells, Pt.slots] at X133 l133 y133 z133 st133 hQ133
  subst l133 y133 z133
  obtain ⟨rfl, N133q, eh133⟩ := hQ133
  have N133 := Fr.app N104 N133q
  have hd134 : ((((y1 + (own_tp ((v7.toInt8.toInt32).toInt8.toInt32) ((xm.toInt8.toInt32).toInt8.toInt32) ((xp.toInt8.toInt32).toInt8.toInt32))) + (y2 + (own_fp ((v7.toInt8.toInt32).toInt8.toInt32) ((xm.toInt8.toInt32).toInt8.toInt32) ((xp.toInt8.toInt32).toInt8.toInt32)))) + (y3 + (own_fn ((v7.toInt8.toInt32).toInt8.toInt32) ((xm.toInt8.toInt32).toInt8.toInt32) ((xp.toInt8.toInt32).toInt8.toInt32)))) + (y4 + (own_tn ((v7.toInt8.toInt32).toInt8.toInt32) ((xm.toInt8.toInt32).toInt8.toInt32) ((xp.toInt8.toInt32).toInt8.toInt32)))) = (v130 + (1 : Int64)) := (by rw [hv130]; exact own_plus _ _ _ _ _ _ _ _ (own_one _ _ _))
  obtain ⟨fs, hr, hrun, hended, hW, hsame⟩ := X133.leave (v := some (.int (1 : Int32))) (fun h => by rw [Bd.returns] at h; cases h)
  refine ⟨_, _, pre99 _ ?_, hrun, hended, _, _, rfl, ?_, ⟨_, rfl⟩, hW, hsame.mono (by decide) (by decide)⟩
  · show Steps p.tables e below (T75.setTop (mkF m 132 #[.val (.long y1), .second, .val (.long y2), .second, .val (.long y3), .second, .val (.long y4), .second, .val (.int y5), .val (.int y6), .val (.int v7), .val (.int xm), .val (.int v39), .val (.int xp), .val (.ref b7xs), .val (.ref b13xs), .val (.ref b23xs), .val (.ref b37), .val (.ref b75xn), .val (.long v130), .second] [])) _
    refine XS.aload X75.here hx rfl (hb hby at_132) rfl rfl ?_
    show Steps p.tables e below (T75.setTop (mkF m 134 #[.val (.long y1), .second, .val (.long y2), .second, .val (.long y3), .second, .val (.long y4), .second, .val (.int y5), .val (.int y6), .val (.int v7), .val (.int xm), .val (.int v39), .val (.int xp), .val (.ref b7xs), .val (.ref b13xs), .val (.ref b23xs), .val (.ref b37), .val (.ref b75xn), .val (.long v130), .second] [(.ref b37)])) _
    refine st100.trans ?_
    show Steps p.tables e below (T100.setTop (mkF m 137 #[.val (.long y1), .second, .val (.long y2), .second, .val (.long y3), .second, .val (.long y4), .second, .val (.int y5), .val (.int y6), .val (.int v7), .val (.int xm), .val (.int v39), .val (.int xp), .val (.ref b7xs), .val (.ref b13xs), .val (.ref b23xs), .val (.ref b37), .val (.ref b75xn), .val (.long v130), .second] [(.long (((y1 + y2) + y3) + y4))])) _
    refine XS.lload X100.here hx rfl (hb hby at_137) rfl ?_
    show Steps p.tables e below (T100.setTop (mkF m 139 #[.val (.long y1), .second, .val (.long y2), .second, .val (.long y3), .second, .val (.long y4), .second, .val (.int y5), .val (.int y6), .val (.int v7), .val (.int xm), .val (.int v39), .val (.int xp), .val (.ref b7xs), .val (.ref b13xs), .val (.ref b23xs), .val (.ref b37), .val (.ref b75xn), .val (.long v130), .second] [(.long v130), (.long (((y1 + y2) + y3) + y4))])) _
    refine XS.lcmp X100.here hx rfl (hb hby at_139) rfl ?_
    show Steps p.tables e below (T100.setTop (mkF m 140 #[.val (.long y1), .second, .val (.long y2), .second, .val (.long y3), .second, .val (.long y4), .second, .val (.int y5), .val (.int y6), .val (.int v7), .val (.int xm), .val (.int v39), .val (.int xp), .val (.ref b7xs), .val (.ref b13xs), .val (.ref b23xs), .val (.ref b37), .val (.ref b75xn), .val (.long v130), .second] [(.int (lcmpW (((y1 + y2) + y3) + y4) v130))])) _
    refine XS.ifNo X100.here hx rfl (hb hby at_140) rfl ((if0 _ _).trans (teq ((lw_eq (((y1 + y2) + y3) + y4) v130).mpr hd101)).2) ?_
    show Steps p.tables e below (T100.setTop (mkF m 143 #[.val (.long y1), .second, .val (.long y2), .second, .val (.long y3), .second, .val (.long y4), .second, .val (.int y5), .val (.int y6), .val (.int v7), .val (.int xm), .val (.int v39), .val (.int xp), .val (.ref b7xs), .val (.ref b13xs), .val (.ref b23xs), .val (.ref b37), .val (.ref b75xn), .val (.long v130), .second] [])) _
    refine XS.aload X100.here hx rfl (hb hby at_143) rfl rfl ?_
    show Steps p.tables e below (T100.setTop (mkF m 145 #[.val (.long y1), .second, .val (.long y2), .second, .val (.long y3), .second, .val (.long y4), .second, .val (.int y5), .val (.int y6), .val (.int v7), .val (.int xm), .val (.int v39), .val (.int xp), .val (.ref b7xs), .val (.ref b13xs), .val (.ref b23xs), .val (.ref b37), .val (.ref b75xn), .val (.long v130), .second] [(.ref b75xn)])) _
    refine st102.trans ?_
    show Steps p.tables e below (T102.setTop (mkF m 148 #[.val (.long y1), .second, .val (.long y2), .second, .val (.long y3), .second, .val (.long y4), .second, .val (.int y5), .val (.int y6), .val (.int v7), .val (.int xm), .val (.int v39), .val (.int xp), .val (.ref b7xs), .val (.ref b13xs), .val (.ref b23xs), .val (.ref b37), .val (.ref b75xn), .val (.long v130), .second] [(.long ((((own_tp ((v7.toInt8.toInt32).toInt8.toInt32) ((xm.toInt8.toInt32).toInt8.toInt32) ((xp.toInt8.toInt32).toInt8.toInt32)) + (own_fp ((v7.toInt8.toInt32).toInt8.toInt32) ((xm.toInt8.toInt32).toInt8.toInt32) ((xp.toInt8.toInt32).toInt8.toInt32))) + (own_fn ((v7.toInt8.toInt32).toInt8.toInt32) ((xm.toInt8.toInt32).toInt8.toInt32) ((xp.toInt8.toInt32).toInt8.toInt32))) + (own_tn ((v7.toInt8.toInt32).toInt8.toInt32) ((xm.toInt8.toInt32).toInt8.toInt32) ((xp.toInt8.toInt32).toInt8.toInt32))))])) _
    refine XS.lconst X102.here hx rfl (hb hby at_148) ?_
    show Steps p.tables e below (T102.setTop (mkF m 149 #[.val (.long y1), .second, .val (.long y2), .second, .val (.long y3), .second, .val (.long y4), .second, .val (.int y5), .val (.int y6), .val (.int v7), .val (.int xm), .val (.int v39), .val (.int xp), .val (.ref b7xs), .val (.ref b13xs), .val (.ref b23xs), .val (.ref b37), .val (.ref b75xn), .val (.long v130), .second] [(.long (1 : Int64)), (.long ((((own_tp ((v7.toInt8.toInt32).toInt8.toInt32) ((xm.toInt8.toInt32).toInt8.toInt32) ((xp.toInt8.toInt32).toInt8.toInt32)) + (own_fp ((v7.toInt8.toInt32).toInt8.toInt32) ((xm.toInt8.toInt32).toInt8.toInt32) ((xp.toInt8.toInt32).toInt8.toInt32))) + (own_fn ((v7.toInt8.toInt32).toInt8.toInt32) ((xm.toInt8.toInt32).toInt8.toInt32) ((xp.toInt8.toInt32).toInt8.toInt32))) + (own_tn ((v7.toInt8.toInt32).toInt8.toInt32) ((xm.toInt8.toInt32).toInt8.toInt32) ((xp.toInt8.toInt32).toInt8.toInt32))))])) _
    refine XS.lcmp X102.here hx rfl (hb hby at_149) rfl ?_
    show Steps p.tables e below (T102.setTop (mkF m 150 #[.val (.long y1), .second, .val (.long y2), .second, .val (.long y3), .second, .val (.long y4), .second, .val (.int y5), .val (.int y6), .val (.int v7), .val (.int xm), .val (.int v39), .val (.int xp), .val (.ref b7xs), .val (.ref b13xs), .val (.ref b23xs), .val (.ref b37), .val (.ref b75xn), .val (.long v130), .second] [(.int (lcmpW ((((own_tp ((v7.toInt8.toInt32).toInt8.toInt32) ((xm.toInt8.toInt32).toInt8.toInt32) ((xp.toInt8.toInt32).toInt8.toInt32)) + (own_fp ((v7.toInt8.toInt32).toInt8.toInt32) ((xm.toInt8.toInt32).toInt8.toInt32) ((xp.toInt8.toInt32).toInt8.toInt32))) + (own_fn ((v7.toInt8.toInt32).toInt8.toInt32) ((xm.toInt8.toInt32).toInt8.toInt32) ((xp.toInt8.toInt32).toInt8.toInt32))) + (own_tn ((v7.toInt8.toInt32).toInt8.toInt32) ((xm.toInt8.toInt32).toInt8.toInt32) ((xp.toInt8.toInt32).toInt8.toInt32))) (1 : Int64)))])) _
    refine XS.ifNo X102.here hx rfl (hb hby at_150) rfl ((if0 _ _).trans (teq ((lw_eq ((((own_tp ((v7.toInt8.toInt32).toInt8.toInt32) ((xm.toInt8.toInt32).toInt8.toInt32) ((xp.toInt8.toInt32).toInt8.toInt32)) + (own_fp ((v7.toInt8.toInt32).toInt8.toInt32) ((xm.toInt8.toInt32).toInt8.toInt32) ((xp.toInt8.toInt32).toInt8.toInt32))) + (own_fn ((v7.toInt8.toInt32).toInt8.toInt32) ((xm.toInt8.toInt32).toInt8.toInt32) ((xp.toInt8.toInt32).toInt8.toInt32))) + (own_tn ((v7.toInt8.toInt32).toInt8.toInt32) ((xm.toInt8.toInt32).toInt8.toInt32) ((xp.toInt8.toInt32).toInt8.toInt32))) (1 : Int64)).mpr hd103)).2) ?_
    show Steps p.tables e below (T102.setTop (mkF m 153 #[.val (.long y1), .second, .val (.long y2), .second, .val (.long y3), .second, .val (.long y4), .second, .val (.int y5), .val (.int y6), .val (.int v7), .val (.int xm), .val (.int v39), .val (.int xp), .val (.ref b7xs), .val (.ref b13xs), .val (.ref b23xs), .val (.ref b37), .val (.ref b75xn), .val (.long v130), .second] [])) _
    refine XS.aload X102.here hx rfl (hb hby at_153) rfl rfl ?_
    show Steps p.tables e below (T102.setTop (mkF m 155 #[.val (.long y1), .second, .val (.long y2), .second, .val (.long y3), .second, .val (.long y4), .second, .val (.int y5), .val (.int y6), .val (.int v7), .val (.int xm), .val (.int v39), .val (.int xp), .val (.ref b7xs), .val (.ref b13xs), .val (.ref b23xs), .val (.ref b37), .val (.ref b75xn), .val (.long v130), .second] [(.ref b37)])) _
    refine XS.aload X102.here hx rfl (hb hby at_155) rfl rfl ?_
    show Steps p.tables e below (T102.setTop (mkF m 157 #[.val (.long y1), .second, .val (.long y2), .second, .val (.long y3), .second, .val (.long y4), .second, .val (.int y5), .val (.int y6), .val (.int v7), .val (.int xm), .val (.int v39), .val (.int xp), .val (.ref b7xs), .val (.ref b13xs), .val (.ref b23xs), .val (.ref b37), .val (.ref b75xn), .val (.long v130), .second] [(.ref b75xn), (.ref b37)])) _
    refine st104.trans ?_
    show Steps p.tables e below (T104.setTop (mkF m 160 #[.val (.long y1), .second, .val (.long y2), .second, .val (.long y3), .second, .val (.long y4), .second, .val (.int y5), .val (.int y6), .val (.int v7), .val (.int xm), .val (.int v39), .val (.int xp), .val (.ref b7xs), .val (.ref b13xs), .val (.ref b23xs), .val (.ref b37), .val (.ref b75xn), .val (.long v130), .second] [(.ref b104xn)])) _
    refine st133.trans ?_
    show Steps p.tables e below (T133.setTop (mkF m 163 #[.val (.long y1), .second, .val (.long y2), .second, .val (.long y3), .second, .val (.long y4), .second, .val (.int y5), .val (.int y6), .val (.int v7), .val (.int xm), .val (.int v39), .val (.int xp), .val (.ref b7xs), .val (.ref b13xs), .val (.ref b23xs), .val (.ref b37), .val (.ref b75xn), .val (.long v130), .second] [(.long ((((y1 + (own_tp ((v7.toInt8.toInt32).toInt8.toInt32) ((xm.toInt8.toInt32).toInt8.toInt32) ((xp.toInt8.toInt32).toInt8.toInt32))) + (y2 + (own_fp ((v7.toInt8.toInt32).toInt8.toInt32) ((xm.toInt8.toInt32).toInt8.toInt32) ((xp.toInt8.toInt32).toInt8.toInt32)))) + (y3 + (own_fn ((v7.toInt8.toInt32).toInt8.toInt32) ((xm.toInt8.toInt32).toInt8.toInt32) ((xp.toInt8.toInt32).toInt8.toInt32)))) + (y4 + (own_tn ((v7.toInt8.toInt32).toInt8.toInt32) ((xm.toInt8.toInt32).toInt8.toInt32) ((xp.toInt8.toInt32).toInt8.toInt32)))))])) _
    refine XS.lload X133.here hx rfl (hb hby at_163) rfl ?_
    show Steps p.tables e below (T133.setTop (mkF m 165 #[.val (.long y1), .second, .val (.long y2), .second, .val (.long y3), .second, .val (.long y4), .second, .val (.int y5), .val (.int y6), .val (.int v7), .val (.int xm), .val (.int v39), .val (.int xp), .val (.ref b7xs), .val (.ref b13xs), .val (.ref b23xs), .val (.ref b37), .val (.ref b75xn), .val (.long v130), .second] [(.long v130), (.long ((((y1 + (own_tp ((v7.toInt8.toInt32).toInt8.toInt32) ((xm.toInt8.toInt32).toInt8.toInt32) ((xp.toInt8.toInt32).toInt8.toInt32))) + (y2 + (own_fp ((v7.toInt8.toInt32).toInt8.toInt32) ((xm.toInt8.toInt32).toInt8.toInt32) ((xp.toInt8.toInt32).toInt8.toInt32)))) + (y3 + (own_fn ((v7.toInt8.toInt32).toInt8.toInt32) ((xm.toInt8.toInt32).toInt8.toInt32) ((xp.toInt8.toInt32).toInt8.toInt32)))) + (y4 + (own_tn ((v7.toInt8.toInt32).toInt8.toInt32) ((xm.toInt8.toInt32).toInt8.toInt32) ((xp.toInt8.toInt32).toInt8.toInt32)))))])) _
    refine XS.lconst X133.here hx rfl (hb hby at_165) ?_
    show Steps p.tables e below (T133.setTop (mkF m 166 #[.val (.long y1), .second, .val (.long y2), .second, .val (.long y3), .second, .val (.long y4), .second, .val (.int y5), .val (.int y6), .val (.int v7), .val (.int xm), .val (.int v39), .val (.int xp), .val (.ref b7xs), .val (.ref b13xs), .val (.ref b23xs), .val (.ref b37), .val (.ref b75xn), .val (.long v130), .second] [(.long (1 : Int64)), (.long v130), (.long ((((y1 + (own_tp ((v7.toInt8.toInt32).toInt8.toInt32) ((xm.toInt8.toInt32).toInt8.toInt32) ((xp.toInt8.toInt32).toInt8.toInt32))) + (y2 + (own_fp ((v7.toInt8.toInt32).toInt8.toInt32) ((xm.toInt8.toInt32).toInt8.toInt32) ((xp.toInt8.toInt32).toInt8.toInt32)))) + (y3 + (own_fn ((v7.toInt8.toInt32).toInt8.toInt32) ((xm.toInt8.toInt32).toInt8.toInt32) ((xp.toInt8.toInt32).toInt8.toInt32)))) + (y4 + (own_tn ((v7.toInt8.toInt32).toInt8.toInt32) ((xm.toInt8.toInt32).toInt8.toInt32) ((xp.toInt8.toInt32).toInt8.toInt32)))))])) _
    refine XS.ladd X133.here hx rfl (hb hby at_166) rfl ?_
    show Steps p.tables e below (T133.setTop (mkF m 167 #[.val (.long y1), .second, .val (.long y2), .second, .val (.long y3), .second, .val (.long y4), .second, .val (.int y5), .val (.int y6), .val (.int v7), .val (.int xm), .val (.int v39), .val (.int xp), .val (.ref b7xs), .val (.ref b13xs), .val (.ref b23xs), .val (.ref b37), .val (.ref b75xn), .val (.long v130), .second] [(.long (v130 + (1 : Int64))), (.long ((((y1 + (own_tp ((v7.toInt8.toInt32).toInt8.toInt32) ((xm.toInt8.toInt32).toInt8.toInt32) ((xp.toInt8.toInt32).toInt8.toInt32))) + (y2 + (own_fp ((v7.toInt8.toInt32).toInt8.toInt32) ((xm.toInt8.toInt32).toInt8.toInt32) ((xp.toInt8.toInt32).toInt8.toInt32)))) + (y3 + (own_fn ((v7.toInt8.toInt32).toInt8.toInt32) ((xm.toInt8.toInt32).toInt8.toInt32) ((xp.toInt8.toInt32).toInt8.toInt32)))) + (y4 + (own_tn ((v7.toInt8.toInt32).toInt8.toInt32) ((xm.toInt8.toInt32).toInt8.toInt32) ((xp.toInt8.toInt32).toInt8.toInt32)))))])) _
    refine XS.lcmp X133.here hx rfl (hb hby at_167) rfl ?_
    show Steps p.tables e below (T133.setTop (mkF m 168 #[.val (.long y1), .second, .val (.long y2), .second, .val (.long y3), .second, .val (.long y4), .second, .val (.int y5), .val (.int y6), .val (.int v7), .val (.int xm), .val (.int v39), .val (.int xp), .val (.ref b7xs), .val (.ref b13xs), .val (.ref b23xs), .val (.ref b37), .val (.ref b75xn), .val (.long v130), .second] [(.int (lcmpW ((((y1 + (own_tp ((v7.toInt8.toInt32).toInt8.toInt32) ((xm.toInt8.toInt32).toInt8.toInt32) ((xp.toInt8.toInt32).toInt8.toInt32))) + (y2 + (own_fp ((v7.toInt8.toInt32).toInt8.toInt32) ((xm.toInt8.toInt32).toInt8.toInt32) ((xp.toInt8.toInt32).toInt8.toInt32)))) + (y3 + (own_fn ((v7.toInt8.toInt32).toInt8.toInt32) ((xm.toInt8.toInt32).toInt8.toInt32) ((xp.toInt8.toInt32).toInt8.toInt32)))) + (y4 + (own_tn ((v7.toInt8.toInt32).toInt8.toInt32) ((xm.toInt8.toInt32).toInt8.toInt32) ((xp.toInt8.toInt32).toInt8.toInt32)))) (v130 + (1 : Int64))))])) _
    refine XS.ifNo X133.here hx rfl (hb hby at_168) rfl ((if0 _ _).trans (teq ((lw_eq ((((y1 + (own_tp ((v7.toInt8.toInt32).toInt8.toInt32) ((xm.toInt8.toInt32).toInt8.toInt32) ((xp.toInt8.toInt32).toInt8.toInt32))) + (y2 + (own_fp ((v7.toInt8.toInt32).toInt8.toInt32) ((xm.toInt8.toInt32).toInt8.toInt32) ((xp.toInt8.toInt32).toInt8.toInt32)))) + (y3 + (own_fn ((v7.toInt8.toInt32).toInt8.toInt32) ((xm.toInt8.toInt32).toInt8.toInt32) ((xp.toInt8.toInt32).toInt8.toInt32)))) + (y4 + (own_tn ((v7.toInt8.toInt32).toInt8.toInt32) ((xm.toInt8.toInt32).toInt8.toInt32) ((xp.toInt8.toInt32).toInt8.toInt32)))) (v130 + (1 : Int64))).mpr hd134)).2) ?_
    show Steps p.tables e below (T133.setTop (mkF m 171 #[.val (.long y1), .second, .val (.long y2), .second, .val (.long y3), .second, .val (.long y4), .second, .val (.int y5), .val (.int y6), .val (.int v7), .val (.int xm), .val (.int v39), .val (.int xp), .val (.ref b7xs), .val (.ref b13xs), .val (.ref b23xs), .val (.ref b37), .val (.ref b75xn), .val (.long v130), .second] [])) _
    refine XS.iconst X133.here hx rfl (hb hby at_171) ?_
    show Steps p.tables e below (T133.setTop (mkF m 172 #[.val (.long y1), .second, .val (.long y2), .second, .val (.long y3), .second, .val (.long y4), .second, .val (.int y5), .val (.int y6), .val (.int v7), .val (.int xm), .val (.int v39), .val (.int xp), .val (.ref b7xs), .val (.ref b13xs), .val (.ref b23xs), .val (.ref b37), .val (.ref b75xn), .val (.long v130), .second] [(.int (1 : Int32))])) _
    refine XS.goto X133.here hx rfl (pc0 := 172) (pc' := 176) rfl (hb hby at_172) (by decide) (by decide) ?_
    show Steps p.tables e below (T133.setTop (mkF m 176 #[.val (.long y1), .second, .val (.long y2), .second, .val (.long y3), .second, .val (.long y4), .second, .val (.int y5), .val (.int y6), .val (.int v7), .val (.int xm), .val (.int v39), .val (.int xp), .val (.ref b7xs), .val (.ref b13xs), .val (.ref b23xs), .val (.ref b37), .val (.ref b75xn), .val (.long v130), .second] [(.int (1 : Int32))])) _
    exact retN X133 hx (t := .boolean) Bd.returns (by simp) (hb hby at_176) hr
  · show own_Q0 Z y1 y2 y3 y4 y5 y6 xcs h0 n0 _ T133.heap _
    rw [eh133]
    exact ⟨rfl, N133⟩
set_option maxRecDepth 65536 in
set_option maxHeartbeats 40000000 in
theorem own_comes_1 {Post : Tables → Env → Array Value → State → Outcome → State → Prop} (hpost : ∀ tb e args s v u, (limb_1_1.after args s (.returned v) u = true ∧ limb_1_2.after args s (.returned v) u = true ∧ True) → FrameEnd s (.returned v) u (Jvm.fieldLocs frame_1_writes args s ++ Jvm.arrayLocs frame_1_arrays args s ++ Jvm.staticLocs frame_1_statics s) 32 128 → Post tb e args s (.returned v) u) :
    ArmFor flags0 classFile x code maxLocals ret World_1 tables_1 room_1 Calls_1 rest_1 Pre_1 Post := by
  intro l hfl _ _ p e ha hc hk s m args below hf hA hF happ hP
  obtain ⟨hcalls, hrest, hpre⟩ := hP
  obtain ⟨-, -, -, hnamed, -, -, -, hat⟩ := (Spec.applies_iff hf).mp happ
  obtain ⟨hg, hn⟩ := and_e (Cond.before_iff.mp (show (Jvm.Cond.and given_1 narrow_1).before args s = true from hpre))
  obtain ⟨gg1, gg2⟩ := and_e hg
  obtain ⟨gg3, gg4⟩ := and_e gg2
  obtain ⟨gg5, gg6⟩ := and_e gg4
  obtain ⟨gg7, gg8⟩ := and_e gg6
  obtain ⟨gg9, gg10⟩ := and_e gg8
  obtain ⟨gg11, gg12⟩ := and_e gg10
  obtain ⟨w0, w1, w2, w3, w4, w5, rfl⟩ : ∃ w0 w1 w2 w3 w4 w5 : Value, args = #[w0, w1, w2, w3, w4, w5] := by
    have hs : args.size = 6 := by simpa [Cond.value, given_1] using gg1
    obtain ⟨L⟩ := args
    match L, hs with
    | [w0, w1, w2, w3, w4, w5], _ => exact ⟨w0, w1, w2, w3, w4, w5, rfl⟩
  have hw := fun d (hd : d ∈ tables_1) => atoms_spec (ws := Jvm.Cond.code x code maxLocals ret :: tables_1) hat d (List.mem_cons_of_mem _ hd)
  have hfit : Fit s := fun {y c} hc i hi => by
    obtain ⟨ha, rfl⟩ := Array.getElem?_eq_some_iff.mp hc
    have q := List.all_eq_true.mp ((Array.all_eq_true_iff_forall_mem.mp hF) _ (Array.getElem_mem ha)) i (List.mem_range.mpr hi)
    simpa [Array.getElem?_eq_getElem hi] using q
  obtain ⟨hsets, hown0⟩ := atoms_of _ (rest_1_c_eq ▸ (show rest_1_c.before _ s = true from hrest))
  have hr0 := Cond.before_iff.mp hown0
  obtain ⟨i0, ei0⟩ := isL_v gg3
  obtain rfl : w0 = (.long i0) := Option.some.inj ei0
  obtain ⟨i1, ei1⟩ := isL_v gg5
  obtain rfl : w1 = (.long i1) := Option.some.inj ei1
  obtain ⟨i2, ei2⟩ := isL_v gg7
  obtain rfl : w2 = (.long i2) := Option.some.inj ei2
  obtain ⟨i3, ei3⟩ := isL_v gg9
  obtain rfl : w3 = (.long i3) := Option.some.inj ei3
  obtain ⟨i4, ei4⟩ := is_v gg11
  obtain rfl : w4 = (.int i4) := Option.some.inj ei4
  obtain ⟨i5, ei5⟩ := is_v gg12
  obtain rfl : w5 = (.int i5) := Option.some.inj ei5
  obtain ⟨xcs, e6⟩ := is_v (Cond.before_iff.mp (hsets _ (List.mem_of_getElem? (i := 1) rfl)))
  have S8 := Sta.start e6 (Or.inl (hsets _ (List.mem_of_getElem? (i := 0) rfl)))
  have hcs : ¬ (xcs = (0 : Int32)) := gotF (Cond.eq_ints e6 (Term.int_eval (0))) (not_v (Cond.before_iff.mp (hsets _ (List.mem_of_getElem? (i := 2) rfl))))
  obtain ⟨n, o, h1, h2, h3, _, L, rfl, ⟨rfl, N⟩, hq⟩ := own_rm0 l s _ hw tables_1 i0 i1 i2 i3 i4 i5 xcs s.heap s.heap.size (Nat.le_refl _) S8 hcs p e ha hc hk s m _ below hf ((Spec.applies_iff_loose hf).mp happ).1 ⟨rfl, State.Warmed39.refl s, rfl⟩ trivial
  refine ⟨n, _, h1, h2, h3, hpost _ _ _ _ _ _ ⟨Cond.after_iff.mpr rfl, Cond.after_iff.mpr (eq_i res_at (Term.int_eval (1)) rfl), trivial⟩ ⟨hq.1, hq.2.1, (hq.2.2.sift fun y hy => Or.inr (N y hy)).mono (by decide) (by decide)⟩⟩
theorem main_1_1 : Claimed_1_1 := own_comes_1 fun _ _ _ _ _ _ h hF => ⟨h.1, hF⟩
theorem main_1_2 : Claimed_1_2 := own_comes_1 fun _ _ _ _ _ _ h hF => ⟨h.2.1, hF⟩
end Jvm.Pilot.@@N@@
namespace Jvm.Pilot.@@N@@
open Jvm Jvm.ClassFile Sem Op Lib Jvm.Free Jvm.Stand Jvm.Pilot.@@N@@.Jvm.D
/-! MADE BY PROGRAM (witnessworld.py) out of the Statement's table words and the real class files: 18 classes; the members and pool entries that the words name. The judged class is class 1, her method 1. -/
namespace start1
open Jvm.ClassFile
def u (s : String) : CpInfo := .utf8 (stringToUtf16 s)
/-- a pool by its gaps: so many unusable entries, then the entry; so many at the end -/
def gap : Nat → List CpInfo → List CpInfo
  | 0, r => r
  | n + 1, r => .unusable :: gap n r
def poolList (es : List (Nat × CpInfo)) (last : Nat) : List CpInfo := es.foldr (fun e r => gap e.1 (e.2 :: r)) (gap last [])
def pool (es : List (Nat × CpInfo)) (last : Nat) : Array CpInfo := ⟨poolList es last⟩
def fileOf (pool : Array CpInfo) (this : Nat) (attrs : Array Attribute := #[]) (ms : Array MethodInfo := #[]) (fl : Nat := 33) (sup : Nat := 0) (ifs : Array Nat := #[]) (fds : Array FieldInfo := #[]) : ClassFile where
  minorVersion := 0
  majorVersion := 65
  constantPool := pool
  accessFlags := fl
  thisClass := this
  superClass := sup
  interfaces := ifs
  fields := fds
  methods := ms
  attributes := attrs
def plain (name : String) (sup : Option ClassId) : Class where
  name := name
  kind := .ordinary
  loader := none
  accessFlags := 33
  super := sup
  interfaces := #[]
  cf := none
  fields := #[]
  methods := #[]
  instanceTypes := #[]
  staticTypes := #[]
  resolved := #[]
  callSites := []
  init := .initialized
  statics := none
  mirror := none

def pool0 : Array CpInfo := pool [(5, u "<init>"), (0, u "()V"), (1, .class_ 10), (1, u "java/lang/Object")] 113

def k0c0 : Code := { maxStack := 0, maxLocals := 1, code := object_method_1_code, exceptionTable := #[], attributes := #[] }
def k0m0 : Method := { name := "<init>", desc := "()V", sig := { parameters := [], returnType := none }, accessFlags := 1, code := some k0c0 }
/-- java/lang/Object -/
def k0 : Class := { plain "java/lang/Object" none with
  accessFlags := 33
  interfaces := #[]
  cf := some (fileOf pool0 8 #[] #[{ accessFlags := 1, nameIndex := 5, descriptorIndex := 6, attributes := #[] }] 33 0 #[] #[])
  fields := #[]
  methods := #[k0m0]
  instanceTypes := #[]
  staticTypes := #[]
  resolved := Array.replicate 124 none
  statics := none }

def pool1 : Array CpInfo := pool [(2, .class_ 4), (1, u "java/lang/Object"), (0, u "<init>"), (0, u "()V"), (0, .methodref 8 9), (0, .class_ 10), (0, .nameAndType 11 12), (0, u "java/lang/String"), (0, u "valueOf"), (0, u "(C)Ljava/lang/String;"), (0, .class_ 14), (0, u "com/example/zhengzi/zhengzi/CorrectionScore"), (0, .methodref 13 16), (0, .nameAndType 5 17), (0, u "(JJJJ)V"), (0, .methodref 13 19), (0, .nameAndType 20 21), (0, u "of"), (0, u "(Ljava/lang/String;Ljava/lang/String;Ljava/lang/String;)Lcom/example/zhengzi/zhengzi/CorrectionScore;"), (0, .methodref 13 23), (0, .nameAndType 24 25), (0, u "pairs"), (0, u "()J"), (0, .methodref 13 27), (0, .nameAndType 28 29), (0, u "plus"), (0, u "(Lcom/example/zhengzi/zhengzi/CorrectionScore;)Lcom/example/zhengzi/zhengzi/CorrectionScore;"), (0, .class_ 31), (0, u "com/example/zhengzi/zhengzi/CorrectionScorePairsPinLaw"), (2, u "law"), (0, u "(JJJJII)Z")] 3

def k1m0 : Method := { name := "<init>", desc := "()V", sig := { parameters := [], returnType := none }, accessFlags := 1, code := none }
def k1c1 : Code := { maxStack := 10, maxLocals := 21, code := code, exceptionTable := #[], attributes := #[] }
def k1m1 : Method := { name := "law", desc := "(JJJJII)Z", sig := { parameters := [.long, .long, .long, .long, .int, .int], returnType := some .boolean }, accessFlags := 9, code := some k1c1 }
/-- com/example/zhengzi/zhengzi/CorrectionScorePairsPinLaw -/
def k1 : Class := { plain "com/example/zhengzi/zhengzi/CorrectionScorePairsPinLaw" (some 0) with
  accessFlags := 49
  interfaces := #[]
  cf := some (fileOf pool1 30 #[] #[{ accessFlags := 1, nameIndex := 5, descriptorIndex := 6, attributes := #[] }, { accessFlags := 9, nameIndex := 34, descriptorIndex := 35, attributes := #[] }] 49 2 #[] #[])
  fields := #[]
  methods := #[k1m0, k1m1]
  instanceTypes := #[]
  staticTypes := #[]
  resolved := Array.replicate 39 none
  statics := none }

def pool2 : Array CpInfo := pool [(1, .class_ 2), (0, u "java/io/Serializable"), (0, .class_ 4), (0, u "java/lang/Object")] 2

/-- java/io/Serializable -/
def k2 : Class := { plain "java/io/Serializable" (some 0) with
  accessFlags := 1537
  interfaces := #[]
  cf := some (fileOf pool2 1 #[] #[] 1537 3 #[] #[])
  fields := #[]
  methods := #[]
  instanceTypes := #[]
  staticTypes := #[]
  resolved := Array.replicate 7 none
  statics := none }

def pool3 : Array CpInfo := pool [(1, .class_ 2), (0, u "java/lang/Comparable"), (0, .class_ 4), (0, u "java/lang/Object")] 7

/-- java/lang/Comparable -/
def k3 : Class := { plain "java/lang/Comparable" (some 0) with
  accessFlags := 1537
  interfaces := #[]
  cf := some (fileOf pool3 1 #[] #[] 1537 3 #[] #[])
  fields := #[]
  methods := #[]
  instanceTypes := #[]
  staticTypes := #[]
  resolved := Array.replicate 12 none
  statics := none }

def pool4 : Array CpInfo := pool [(2, .class_ 4), (1, u "java/lang/CharSequence"), (42, .class_ 48), (0, u "java/lang/CharSequence$1CodePointIterator"), (10, .class_ 60), (0, u "java/lang/CharSequence$1CharIterator"), (5, .class_ 67), (0, u "java/lang/Object")] 63

/-- java/lang/CharSequence -/
def k4 : Class := { plain "java/lang/CharSequence" (some 0) with
  accessFlags := 1537
  interfaces := #[]
  cf := some (fileOf pool4 2 #[.nestMembers #[47, 59]] #[] 1537 66 #[] #[])
  fields := #[]
  methods := #[]
  instanceTypes := #[]
  staticTypes := #[]
  resolved := Array.replicate 131 none
  statics := none }

def pool5 : Array CpInfo := pool [(1, .class_ 2), (0, u "java/lang/constant/Constable"), (0, .class_ 4), (0, u "java/lang/Object")] 6

/-- java/lang/constant/Constable -/
def k5 : Class := { plain "java/lang/constant/Constable" (some 0) with
  accessFlags := 1537
  interfaces := #[]
  cf := some (fileOf pool5 1 #[] #[] 1537 3 #[] #[])
  fields := #[]
  methods := #[]
  instanceTypes := #[]
  staticTypes := #[]
  resolved := Array.replicate 11 none
  statics := none }

def pool6 : Array CpInfo := pool [(1, .class_ 2), (0, u "java/lang/constant/ConstantDesc"), (0, .class_ 4), (0, u "java/lang/Object")] 32

/-- java/lang/constant/ConstantDesc -/
def k6 : Class := { plain "java/lang/constant/ConstantDesc" (some 0) with
  accessFlags := 1537
  interfaces := #[]
  cf := some (fileOf pool6 1 #[] #[] 1537 3 #[] #[])
  fields := #[]
  methods := #[]
  instanceTypes := #[]
  staticTypes := #[]
  resolved := Array.replicate 37 none
  statics := none }

def pool7 : Array CpInfo := pool [(1, .methodref 2 3), (0, .class_ 4), (0, .nameAndType 5 6), (0, u "java/lang/Object"), (0, u "<init>"), (0, u "()V"), (2, .fieldref 10 11), (0, .class_ 12), (0, .nameAndType 13 14), (0, u "java/lang/String"), (0, u "value"), (0, u "[B"), (0, .fieldref 10 16), (0, .nameAndType 17 18), (0, u "coder"), (0, u "B"), (2, u "hash"), (0, u "I"), (2, u "hashIsZero"), (0, u "Z"), (11, .fieldref 10 39), (0, .nameAndType 40 26), (0, u "COMPACT_STRINGS"), (12, u "toBytes"), (53, .class_ 109), (1, u "java/lang/StringLatin1"), (99, .methodref 10 210), (0, .nameAndType 5 211), (0, u "([BB)V"), (157, u "(C)Z"), (171, .methodref 107 542), (0, .nameAndType 543 544), (0, u "equals"), (0, u "([B[B)Z"), (28, u "(Ljava/lang/Object;)Z"), (1, .class_ 576), (0, u "java/lang/CharSequence"), (22, u "CASE_INSENSITIVE_ORDER"), (0, u "Ljava/util/Comparator;"), (181, u "valueOf"), (0, u "(C)Ljava/lang/String;"), (231, .methodref 107 1016), (0, .nameAndType 1017 369), (0, u "canEncode"), (0, .methodref 107 1019), (0, .nameAndType 53 1020), (0, u "(C)[B"), (80, u "serialPersistentFields"), (0, u "[Ljava/io/ObjectStreamField;"), (0, .class_ 1104), (0, u "java/lang/String$CaseInsensitiveComparator"), (1, .class_ 1107), (0, u "java/io/Serializable"), (0, .class_ 1109), (0, u "java/lang/Comparable"), (0, .class_ 1111), (0, u "java/lang/constant/Constable"), (0, .class_ 1113), (0, u "java/lang/constant/ConstantDesc"), (2, u "serialVersionUID"), (0, u "J"), (3, u "REPL"), (0, u "C"), (2, u "LATIN1"), (1, u "UTF16")] 323

def k7m0 : Method := { name := "<init>", desc := "()V", sig := { parameters := [], returnType := none }, accessFlags := 1, code := none }
def k7c1 : Code := { maxStack := 2, maxLocals := 3, code := jdk_42_method_66_code, exceptionTable := #[], attributes := #[] }
def k7m1 : Method := { name := "equals", desc := "(Ljava/lang/Object;)Z", sig := { parameters := [(.object "java/lang/Object")], returnType := some .boolean }, accessFlags := 1, code := some k7c1 }
def k7c2 : Code := { maxStack := 4, maxLocals := 1, code := jdk_42_method_139_code, exceptionTable := #[], attributes := #[] }
def k7m2 : Method := { name := "valueOf", desc := "(C)Ljava/lang/String;", sig := { parameters := [.char], returnType := some (.object "java/lang/String") }, accessFlags := 9, code := some k7c2 }
def k7c3 : Code := { maxStack := 2, maxLocals := 3, code := jdk_42_method_151_code, exceptionTable := #[], attributes := #[] }
def k7m3 : Method := { name := "<init>", desc := "([BB)V", sig := { parameters := [(.array .byte), .byte], returnType := none }, accessFlags := 0, code := some k7c3 }
/-- java/lang/String -/
def k7 : Class := { plain "java/lang/String" (some 0) with
  accessFlags := 49
  interfaces := #[2, 3, 4, 5, 6]
  cf := some (fileOf pool7 10 #[.nestMembers #[1103]] #[{ accessFlags := 1, nameIndex := 5, descriptorIndex := 6, attributes := #[] }, { accessFlags := 1, nameIndex := 543, descriptorIndex := 573, attributes := #[] }, { accessFlags := 9, nameIndex := 782, descriptorIndex := 783, attributes := #[] }, { accessFlags := 0, nameIndex := 5, descriptorIndex := 211, attributes := #[] }] 49 2 #[1106, 1108, 575, 1110, 1112] #[{ accessFlags := 18, nameIndex := 13, descriptorIndex := 14, attributes := #[] }, { accessFlags := 18, nameIndex := 17, descriptorIndex := 18, attributes := #[] }, { accessFlags := 2, nameIndex := 21, descriptorIndex := 22, attributes := #[] }, { accessFlags := 2, nameIndex := 25, descriptorIndex := 26, attributes := #[] }, { accessFlags := 26, nameIndex := 1116, descriptorIndex := 1117, attributes := #[] }, { accessFlags := 24, nameIndex := 40, descriptorIndex := 26, attributes := #[] }, { accessFlags := 26, nameIndex := 1101, descriptorIndex := 1102, attributes := #[] }, { accessFlags := 26, nameIndex := 1121, descriptorIndex := 1122, attributes := #[] }, { accessFlags := 25, nameIndex := 599, descriptorIndex := 600, attributes := #[] }, { accessFlags := 24, nameIndex := 1125, descriptorIndex := 18, attributes := #[] }, { accessFlags := 24, nameIndex := 1127, descriptorIndex := 18, attributes := #[] }])
  fields := #[{ name := "value", type := (.array .byte), accessFlags := 18, slot := 0, constantValue := 0 }, { name := "coder", type := .byte, accessFlags := 18, slot := 1, constantValue := 0 }, { name := "hash", type := .int, accessFlags := 2, slot := 2, constantValue := 0 }, { name := "hashIsZero", type := .boolean, accessFlags := 2, slot := 3, constantValue := 0 }, { name := "serialVersionUID", type := .long, accessFlags := 26, slot := 0, constantValue := 0 }, { name := "COMPACT_STRINGS", type := .boolean, accessFlags := 24, slot := 1, constantValue := 0 }, { name := "serialPersistentFields", type := (.array (.object "java/io/ObjectStreamField")), accessFlags := 26, slot := 2, constantValue := 0 }, { name := "REPL", type := .char, accessFlags := 26, slot := 3, constantValue := 0 }, { name := "CASE_INSENSITIVE_ORDER", type := (.object "java/util/Comparator"), accessFlags := 25, slot := 4, constantValue := 0 }, { name := "LATIN1", type := .byte, accessFlags := 24, slot := 5, constantValue := 0 }, { name := "UTF16", type := .byte, accessFlags := 24, slot := 6, constantValue := 0 }]
  methods := #[k7m0, k7m1, k7m2, k7m3]
  instanceTypes := #[(.array .byte), .byte, .int, .boolean]
  staticTypes := #[.long, .boolean, (.array (.object "java/io/ObjectStreamField")), .char, (.object "java/util/Comparator"), .byte, .byte]
  resolved := Array.replicate 1451 none
  statics := some 0 }

def pool8 : Array CpInfo := pool [(4, .class_ 6), (1, u "java/lang/Object"), (0, u "<init>"), (0, u "()V"), (5, .class_ 16), (1, u "java/lang/StringLatin1"), (73, u "canEncode"), (14, u "(C)Z"), (15, u "$assertionsDisabled"), (0, u "Z"), (98, .class_ 223), (1, u "java/lang/StringLatin1$LinesSpliterator"), (57, u "equals"), (0, u "([B[B)Z"), (97, u "toBytes"), (1, u "(C)[B"), (7, .class_ 391), (0, u "java/lang/StringLatin1$CharsSpliterator")] 3

def k8m0 : Method := { name := "<init>", desc := "()V", sig := { parameters := [], returnType := none }, accessFlags := 0, code := none }
def k8c1 : Code := { maxStack := 2, maxLocals := 1, code := jdk_43_method_3_code, exceptionTable := #[], attributes := #[] }
def k8m1 : Method := { name := "canEncode", desc := "(C)Z", sig := { parameters := [.char], returnType := some .boolean }, accessFlags := 9, code := some k8c1 }
def k8c2 : Code := { maxStack := 3, maxLocals := 3, code := jdk_43_method_13_code, exceptionTable := #[], attributes := #[] }
def k8m2 : Method := { name := "equals", desc := "([B[B)Z", sig := { parameters := [(.array .byte), (.array .byte)], returnType := some .boolean }, accessFlags := 9, code := some k8c2 }
def k8c3 : Code := { maxStack := 4, maxLocals := 1, code := jdk_43_method_46_code, exceptionTable := #[], attributes := #[] }
def k8m3 : Method := { name := "toBytes", desc := "(C)[B", sig := { parameters := [.char], returnType := some (.array .byte) }, accessFlags := 9, code := some k8c3 }
/-- java/lang/StringLatin1 -/
def k8 : Class := { plain "java/lang/StringLatin1" (some 0) with
  accessFlags := 48
  interfaces := #[]
  cf := some (fileOf pool8 14 #[.nestMembers #[390, 221]] #[{ accessFlags := 0, nameIndex := 7, descriptorIndex := 8, attributes := #[] }, { accessFlags := 9, nameIndex := 90, descriptorIndex := 105, attributes := #[] }, { accessFlags := 9, nameIndex := 281, descriptorIndex := 282, attributes := #[] }, { accessFlags := 9, nameIndex := 380, descriptorIndex := 382, attributes := #[] }] 48 4 #[] #[{ accessFlags := 4120, nameIndex := 121, descriptorIndex := 122, attributes := #[] }])
  fields := #[{ name := "$assertionsDisabled", type := .boolean, accessFlags := 4120, slot := 0, constantValue := 0 }]
  methods := #[k8m0, k8m1, k8m2, k8m3]
  instanceTypes := #[]
  staticTypes := #[.boolean]
  resolved := Array.replicate 395 none
  statics := none }

def pool9 : Array CpInfo := pool [(1, .methodref 2 3), (0, .class_ 4), (0, .nameAndType 5 6), (0, u "java/lang/Object"), (0, u "<init>"), (0, u "()V"), (0, .class_ 8), (0, u "java/lang/Record")] 13

def k9c0 : Code := { maxStack := 1, maxLocals := 1, code := jdk_30_method_1_code, exceptionTable := #[], attributes := #[] }
def k9m0 : Method := { name := "<init>", desc := "()V", sig := { parameters := [], returnType := none }, accessFlags := 4, code := some k9c0 }
/-- java/lang/Record -/
def k9 : Class := { plain "java/lang/Record" (some 0) with
  accessFlags := 1057
  interfaces := #[]
  cf := some (fileOf pool9 7 #[] #[{ accessFlags := 4, nameIndex := 5, descriptorIndex := 6, attributes := #[] }] 1057 2 #[] #[])
  fields := #[]
  methods := #[k9m0]
  instanceTypes := #[]
  staticTypes := #[]
  resolved := Array.replicate 22 none
  statics := none }

def pool10 : Array CpInfo := pool [(1, .methodref 2 3), (0, .class_ 4), (0, .nameAndType 5 6), (0, u "java/lang/Record"), (0, u "<init>"), (0, u "()V"), (0, .fieldref 8 9), (0, .class_ 10), (0, .nameAndType 11 12), (0, u "com/example/zhengzi/zhengzi/CorrectionScore"), (0, u "truePositives"), (0, u "J"), (0, .fieldref 8 14), (0, .nameAndType 15 12), (0, u "falsePositives"), (0, .fieldref 8 17), (0, .nameAndType 18 12), (0, u "falseNegatives"), (0, .fieldref 8 20), (0, .nameAndType 21 12), (0, u "trueNegatives"), (0, .methodref 23 24), (0, .class_ 25), (0, .nameAndType 26 27), (0, u "java/lang/String"), (0, u "equals"), (0, u "(Ljava/lang/Object;)Z"), (0, .methodref 8 29), (0, .nameAndType 5 30), (0, u "(JJJJ)V"), (20, .class_ 52), (0, u "com/example/zhengzi/zhengzi/CorrectionScore$Pair"), (15, u "of"), (0, u "(Ljava/lang/String;Ljava/lang/String;Ljava/lang/String;)Lcom/example/zhengzi/zhengzi/CorrectionScore;"), (2, u "plus"), (0, u "(Lcom/example/zhengzi/zhengzi/CorrectionScore;)Lcom/example/zhengzi/zhengzi/CorrectionScore;"), (106, u "pairs"), (0, u "()J")] 56

def k10c0 : Code := { maxStack := 3, maxLocals := 9, code := prog_12_method_1_code, exceptionTable := #[], attributes := #[] }
def k10m0 : Method := { name := "<init>", desc := "(JJJJ)V", sig := { parameters := [.long, .long, .long, .long], returnType := none }, accessFlags := 1, code := some k10c0 }
def k10c1 : Code := { maxStack := 10, maxLocals := 4, code := prog_12_method_2_code, exceptionTable := #[], attributes := #[] }
def k10m1 : Method := { name := "of", desc := "(Ljava/lang/String;Ljava/lang/String;Ljava/lang/String;)Lcom/example/zhengzi/zhengzi/CorrectionScore;", sig := { parameters := [(.object "java/lang/String"), (.object "java/lang/String"), (.object "java/lang/String")], returnType := some (.object "com/example/zhengzi/zhengzi/CorrectionScore") }, accessFlags := 9, code := some k10c1 }
def k10c2 : Code := { maxStack := 12, maxLocals := 2, code := prog_12_method_6_code, exceptionTable := #[], attributes := #[] }
def k10m2 : Method := { name := "plus", desc := "(Lcom/example/zhengzi/zhengzi/CorrectionScore;)Lcom/example/zhengzi/zhengzi/CorrectionScore;", sig := { parameters := [(.object "com/example/zhengzi/zhengzi/CorrectionScore")], returnType := some (.object "com/example/zhengzi/zhengzi/CorrectionScore") }, accessFlags := 1, code := some k10c2 }
def k10c3 : Code := { maxStack := 4, maxLocals := 1, code := prog_12_method_7_code, exceptionTable := #[], attributes := #[] }
def k10m3 : Method := { name := "pairs", desc := "()J", sig := { parameters := [], returnType := some .long }, accessFlags := 1, code := some k10c3 }
/-- com/example/zhengzi/zhengzi/CorrectionScore -/
def k10 : Class := { plain "com/example/zhengzi/zhengzi/CorrectionScore" (some 9) with
  accessFlags := 49
  interfaces := #[]
  cf := some (fileOf pool10 8 #[.nestMembers #[51]] #[{ accessFlags := 1, nameIndex := 5, descriptorIndex := 30, attributes := #[] }, { accessFlags := 9, nameIndex := 68, descriptorIndex := 69, attributes := #[] }, { accessFlags := 1, nameIndex := 72, descriptorIndex := 73, attributes := #[] }, { accessFlags := 1, nameIndex := 180, descriptorIndex := 181, attributes := #[] }] 49 2 #[] #[{ accessFlags := 18, nameIndex := 11, descriptorIndex := 12, attributes := #[] }, { accessFlags := 18, nameIndex := 15, descriptorIndex := 12, attributes := #[] }, { accessFlags := 18, nameIndex := 18, descriptorIndex := 12, attributes := #[] }, { accessFlags := 18, nameIndex := 21, descriptorIndex := 12, attributes := #[] }])
  fields := #[{ name := "truePositives", type := .long, accessFlags := 18, slot := 0, constantValue := 0 }, { name := "falsePositives", type := .long, accessFlags := 18, slot := 1, constantValue := 0 }, { name := "falseNegatives", type := .long, accessFlags := 18, slot := 2, constantValue := 0 }, { name := "trueNegatives", type := .long, accessFlags := 18, slot := 3, constantValue := 0 }]
  methods := #[k10m0, k10m1, k10m2, k10m3]
  instanceTypes := #[.long, .long, .long, .long]
  staticTypes := #[]
  resolved := Array.replicate 238 none
  statics := none }

def pool11 : Array CpInfo := pool [(2, .class_ 4), (1, u "java/lang/Object"), (0, u "<init>"), (0, u "()V"), (17, .class_ 26), (1, u "jdk/internal/util/Preconditions"), (28, .class_ 56), (0, u "jdk/internal/util/Preconditions$4"), (57, .class_ 115), (0, u "jdk/internal/util/Preconditions$1"), (7, u "SIOOBE_FORMATTER"), (0, u "Ljava/util/function/BiFunction;"), (0, .class_ 126), (0, u "jdk/internal/util/Preconditions$2"), (3, u "AIOOBE_FORMATTER"), (0, .class_ 132), (0, u "jdk/internal/util/Preconditions$3"), (3, u "IOOBE_FORMATTER")] 57

def k11m0 : Method := { name := "<init>", desc := "()V", sig := { parameters := [], returnType := none }, accessFlags := 1, code := none }
/-- jdk/internal/util/Preconditions -/
def k11 : Class := { plain "jdk/internal/util/Preconditions" (some 0) with
  accessFlags := 33
  interfaces := #[]
  cf := some (fileOf pool11 24 #[.nestMembers #[55, 131, 125, 114]] #[{ accessFlags := 1, nameIndex := 5, descriptorIndex := 6, attributes := #[] }] 33 2 #[] #[{ accessFlags := 25, nameIndex := 123, descriptorIndex := 124, attributes := #[] }, { accessFlags := 25, nameIndex := 130, descriptorIndex := 124, attributes := #[] }, { accessFlags := 25, nameIndex := 136, descriptorIndex := 124, attributes := #[] }])
  fields := #[{ name := "SIOOBE_FORMATTER", type := (.object "java/util/function/BiFunction"), accessFlags := 25, slot := 0, constantValue := 0 }, { name := "AIOOBE_FORMATTER", type := (.object "java/util/function/BiFunction"), accessFlags := 25, slot := 1, constantValue := 0 }, { name := "IOOBE_FORMATTER", type := (.object "java/util/function/BiFunction"), accessFlags := 25, slot := 2, constantValue := 0 }]
  methods := #[k11m0]
  instanceTypes := #[]
  staticTypes := #[(.object "java/util/function/BiFunction"), (.object "java/util/function/BiFunction"), (.object "java/util/function/BiFunction")]
  resolved := Array.replicate 194 none
  statics := some 1 }

def pool12 : Array CpInfo := pool [(9, u "<init>"), (6, .class_ 18), (1, u "java/lang/Object"), (0, u "()V"), (1, .class_ 23), (1, u "jdk/internal/util/ArraysSupport"), (0, u "LOG2_ARRAY_LONG_INDEX_SCALE"), (0, u "I"), (2, u "U"), (0, u "Ljdk/internal/misc/Unsafe;"), (8, u "BIG_ENDIAN"), (0, u "Z"), (8, u "LOG2_BYTE_BIT_SIZE"), (4, u "LOG2_ARRAY_INT_INDEX_SCALE"), (54, u "JLA"), (0, u "Ljdk/internal/access/JavaLangAccess;"), (11, u "LOG2_ARRAY_BOOLEAN_INDEX_SCALE"), (9, u "LOG2_ARRAY_BYTE_INDEX_SCALE"), (5, u "LOG2_ARRAY_CHAR_INDEX_SCALE"), (5, u "LOG2_ARRAY_SHORT_INDEX_SCALE"), (18, u "LOG2_ARRAY_FLOAT_INDEX_SCALE"), (24, u "LOG2_ARRAY_DOUBLE_INDEX_SCALE"), (89, u "T_BOOLEAN"), (2, u "T_CHAR"), (1, u "T_FLOAT"), (1, u "T_DOUBLE"), (1, u "T_BYTE"), (1, u "T_SHORT"), (1, u "T_INT"), (1, u "T_LONG"), (1, u "SOFT_MAX_ARRAY_LENGTH")] 83

def k12m0 : Method := { name := "<init>", desc := "()V", sig := { parameters := [], returnType := none }, accessFlags := 2, code := none }
/-- jdk/internal/util/ArraysSupport -/
def k12 : Class := { plain "jdk/internal/util/ArraysSupport" (some 0) with
  accessFlags := 33
  interfaces := #[]
  cf := some (fileOf pool12 21 #[] #[{ accessFlags := 2, nameIndex := 9, descriptorIndex := 19, attributes := #[] }] 33 16 #[] #[{ accessFlags := 24, nameIndex := 28, descriptorIndex := 29, attributes := #[] }, { accessFlags := 26, nameIndex := 38, descriptorIndex := 39, attributes := #[] }, { accessFlags := 25, nameIndex := 121, descriptorIndex := 25, attributes := #[] }, { accessFlags := 25, nameIndex := 131, descriptorIndex := 25, attributes := #[] }, { accessFlags := 25, nameIndex := 137, descriptorIndex := 25, attributes := #[] }, { accessFlags := 25, nameIndex := 143, descriptorIndex := 25, attributes := #[] }, { accessFlags := 25, nameIndex := 53, descriptorIndex := 25, attributes := #[] }, { accessFlags := 25, nameIndex := 24, descriptorIndex := 25, attributes := #[] }, { accessFlags := 25, nameIndex := 162, descriptorIndex := 25, attributes := #[] }, { accessFlags := 25, nameIndex := 187, descriptorIndex := 25, attributes := #[] }, { accessFlags := 26, nameIndex := 48, descriptorIndex := 25, attributes := #[] }, { accessFlags := 25, nameIndex := 277, descriptorIndex := 25, attributes := #[] }, { accessFlags := 25, nameIndex := 280, descriptorIndex := 25, attributes := #[] }, { accessFlags := 25, nameIndex := 282, descriptorIndex := 25, attributes := #[] }, { accessFlags := 25, nameIndex := 284, descriptorIndex := 25, attributes := #[] }, { accessFlags := 25, nameIndex := 286, descriptorIndex := 25, attributes := #[] }, { accessFlags := 25, nameIndex := 288, descriptorIndex := 25, attributes := #[] }, { accessFlags := 25, nameIndex := 290, descriptorIndex := 25, attributes := #[] }, { accessFlags := 25, nameIndex := 292, descriptorIndex := 25, attributes := #[] }, { accessFlags := 26, nameIndex := 108, descriptorIndex := 109, attributes := #[] }, { accessFlags := 25, nameIndex := 294, descriptorIndex := 25, attributes := #[] }])
  fields := #[{ name := "U", type := (.object "jdk/internal/misc/Unsafe"), accessFlags := 24, slot := 0, constantValue := 0 }, { name := "BIG_ENDIAN", type := .boolean, accessFlags := 26, slot := 1, constantValue := 0 }, { name := "LOG2_ARRAY_BOOLEAN_INDEX_SCALE", type := .int, accessFlags := 25, slot := 2, constantValue := 0 }, { name := "LOG2_ARRAY_BYTE_INDEX_SCALE", type := .int, accessFlags := 25, slot := 3, constantValue := 0 }, { name := "LOG2_ARRAY_CHAR_INDEX_SCALE", type := .int, accessFlags := 25, slot := 4, constantValue := 0 }, { name := "LOG2_ARRAY_SHORT_INDEX_SCALE", type := .int, accessFlags := 25, slot := 5, constantValue := 0 }, { name := "LOG2_ARRAY_INT_INDEX_SCALE", type := .int, accessFlags := 25, slot := 6, constantValue := 0 }, { name := "LOG2_ARRAY_LONG_INDEX_SCALE", type := .int, accessFlags := 25, slot := 7, constantValue := 0 }, { name := "LOG2_ARRAY_FLOAT_INDEX_SCALE", type := .int, accessFlags := 25, slot := 8, constantValue := 0 }, { name := "LOG2_ARRAY_DOUBLE_INDEX_SCALE", type := .int, accessFlags := 25, slot := 9, constantValue := 0 }, { name := "LOG2_BYTE_BIT_SIZE", type := .int, accessFlags := 26, slot := 10, constantValue := 0 }, { name := "T_BOOLEAN", type := .int, accessFlags := 25, slot := 11, constantValue := 0 }, { name := "T_CHAR", type := .int, accessFlags := 25, slot := 12, constantValue := 0 }, { name := "T_FLOAT", type := .int, accessFlags := 25, slot := 13, constantValue := 0 }, { name := "T_DOUBLE", type := .int, accessFlags := 25, slot := 14, constantValue := 0 }, { name := "T_BYTE", type := .int, accessFlags := 25, slot := 15, constantValue := 0 }, { name := "T_SHORT", type := .int, accessFlags := 25, slot := 16, constantValue := 0 }, { name := "T_INT", type := .int, accessFlags := 25, slot := 17, constantValue := 0 }, { name := "T_LONG", type := .int, accessFlags := 25, slot := 18, constantValue := 0 }, { name := "JLA", type := (.object "jdk/internal/access/JavaLangAccess"), accessFlags := 26, slot := 19, constantValue := 0 }, { name := "SOFT_MAX_ARRAY_LENGTH", type := .int, accessFlags := 25, slot := 20, constantValue := 0 }]
  methods := #[k12m0]
  instanceTypes := #[]
  staticTypes := #[(.object "jdk/internal/misc/Unsafe"), .boolean, .int, .int, .int, .int, .int, .int, .int, .int, .int, .int, .int, .int, .int, .int, .int, .int, .int, (.object "jdk/internal/access/JavaLangAccess"), .int]
  resolved := Array.replicate 378 none
  statics := none }

def pool13 : Array CpInfo := pool [(1, u "java/lang/Cloneable"), (0, .class_ 1), (0, u "java/lang/Object"), (0, .class_ 3)] 3

/-- java/lang/Cloneable -/
def k13 : Class := { plain "java/lang/Cloneable" (some 0) with
  accessFlags := 1537
  interfaces := #[]
  cf := some (fileOf pool13 2 #[] #[] 1537 4 #[] #[])
  fields := #[]
  methods := #[]
  instanceTypes := #[]
  staticTypes := #[]
  resolved := Array.replicate 8 none
  statics := none }

/-- the primitive byte -/
def k14 : Class := { plain "byte" none with kind := .primitive 'B', accessFlags := 0x411 }
/-- [B -/
def k15 : Class := { plain "[B" (some 0) with kind := .array 14 .byte, interfaces := #[13, 2], accessFlags := 1041 }

/-- the primitive int -/
def k16 : Class := { plain "int" none with kind := .primitive 'I', accessFlags := 0x411 }
/-- [I -/
def k17 : Class := { plain "[I" (some 0) with kind := .array 16 .int, interfaces := #[13, 2], accessFlags := 1041 }

def heap : Heap := #[{ cls := 7, slots := #[.long 0, .int 1, .null, .int 0, .null, .int 0, .int 0], vm := .statics 7 },
  { cls := 11, slots := #[.null, .null, .null], vm := .statics 11 }]
def classes : Array Class := #[k0, k1, k2, k3, k4, k5, k6, k7, k8, k9, k10, k11, k12, k13, k14, k15, k16, k17]
def interned : List (Array UInt16 × Addr) := []
def slotsUsed : Nat := 10
def theMethod : MethodId := ⟨1, 1⟩
def args0 : Array Value := #[.long 5, .long 6, .long 7, .long 8, .int 65, .int 3]
def aboutOver (below : List Frame) : State where
  vm := { classes := classes, interned := interned.toArray }
  heap := heap
  slotsUsed := slotsUsed
  threads := #[{ frames := .invoking theMethod args0 :: below }]
def below0 : List Frame := [.native { method := ⟨0, 0⟩, args := #[] }]
def about1 : State := aboutOver below0
def p0 : Program := .bare "" "" ""
def e0 : Env := launch0.env 0 0 0
theorem w_frames : about1.frames = Frame.invoking theMethod args0 :: below0 := rfl
set_option maxRecDepth 65536 in
theorem w_args : argsFit about1.vm theMethod args0 = true := by decide +kernel
set_option maxRecDepth 65536 in
theorem w_heap : heapFits about1 = true := by decide +kernel
set_option maxRecDepth 65536 in
theorem w_runnable : about1.curStatus? = some .runnable := by decide +kernel
set_option maxRecDepth 65536 in
theorem w_alone : about1.alone = true := by decide +kernel
set_option maxRecDepth 65536 in
theorem w_named : about1.methodNamed? x = some theMethod := by decide +kernel
set_option maxRecDepth 65536 in
theorem w_hears : about1.hears theMethod below0 = true := by decide +kernel
set_option maxRecDepth 65536 in
theorem w_ripe : about1.ripe theMethod args0 below0 = true := by decide +kernel
theorem w_running : about1.status = .running := rfl
set_option maxRecDepth 65536 in
theorem w_room : about1.hasRoom e0.platform room_1 = true :=
  launch0.hasRoom_least _ room_1 (by decide +kernel) (by decide +kernel) (by decide +kernel) (by decide +kernel) (by decide +kernel) (by decide +kernel)
theorem allAtoms_all (ts : List Jvm.Cond) (a : Array Jvm.Value) (st : Jvm.State) : (allAtoms ts).before a st = ts.all (fun c => c.before a st) := by
  induction ts with
  | nil => rfl
  | cons c t ih =>
    show (Jvm.Cond.and c (allAtoms t)).before a st = _
    rw [Jvm.Cond.before_and, ih, List.all_cons]
def words1 : List Jvm.Cond := Jvm.Cond.code x code maxLocals ret :: tables_1
/-- a 'code' word, met by the world's own term for the bytes: nothing is compared byte by byte -/
theorem code_word {y : MethodName} {bytes : ByteArray} {mx : Nat} {rt : Option FieldType} {a : Array Value} {s : State} {m : MethodId} {meth : Method} {c : Code} (h1 : s.methodNamed? y = some m) (h2 : s.vm.method? m = some meth) (h3 : meth.code = some c) (h4 : c.code = bytes)
    (h5 : (c.maxLocals == mx && c.exceptionTable.isEmpty && decide (c.maxStack ≤ mostOperands) && decide (meth.sig.returnType = rt) && !meth.locks && decide (parseMethodDescriptor y.desc = some meth.sig)) = true) : (Jvm.Cond.code y bytes mx rt).before a s = true := by
  simp only [Bool.and_eq_true, beq_iff_eq, Bool.not_eq_true', decide_eq_true_eq] at h5
  obtain ⟨⟨⟨⟨⟨g1, g2⟩, g3⟩, g4⟩, g5⟩, g6⟩ := h5
  simp [Cond.before, Cond.holds, Cond.value, h1, h2, h3, h4, g1, g2, g3, g4, g5, g6]
def isCode : Jvm.Cond → Bool
  | .code _ _ _ _ => true
  | _ => false
theorem all_split {L : List Jvm.Cond} {P : Jvm.Cond → Bool} (h1 : L.all (fun c => isCode c || P c) = true) (h2 : ∀ c ∈ L.filter isCode, P c = true) : L.all P = true := by
  refine List.all_eq_true.mpr fun c hc => ?_
  have h := List.all_eq_true.mp h1 c hc
  rcases Bool.eq_false_or_eq_true (isCode c) with hi | hi
  · exact h2 c (List.mem_filter.mpr ⟨hc, hi⟩)
  · simpa [hi] using h
set_option maxRecDepth 65536 in
theorem w_c0 : (Jvm.Cond.code x code maxLocals ret).before args0 about1 = true := code_word (m := ⟨1, 1⟩) (meth := k1m1) (c := k1c1) (by decide +kernel) rfl rfl rfl (by decide +kernel)
set_option maxRecDepth 65536 in
theorem w_c1 : (Jvm.Cond.code ({ cls := "java/lang/String", name := "valueOf", desc := "(C)Ljava/lang/String;" } : Jvm.MethodName) jdk_42_method_139_code (1 : Nat) (Option.some (Jvm.ClassFile.FieldType.object "java/lang/String"))).before args0 about1 = true := code_word (m := ⟨7, 2⟩) (meth := k7m2) (c := k7c2) (by decide +kernel) rfl rfl rfl (by decide +kernel)
set_option maxRecDepth 65536 in
theorem w_c2 : (Jvm.Cond.code ({ cls := "java/lang/StringLatin1", name := "canEncode", desc := "(C)Z" } : Jvm.MethodName) jdk_43_method_3_code (1 : Nat) (Option.some Jvm.ClassFile.FieldType.boolean)).before args0 about1 = true := code_word (m := ⟨8, 1⟩) (meth := k8m1) (c := k8c1) (by decide +kernel) rfl rfl rfl (by decide +kernel)
set_option maxRecDepth 65536 in
theorem w_c3 : (Jvm.Cond.code ({ cls := "java/lang/StringLatin1", name := "toBytes", desc := "(C)[B" } : Jvm.MethodName) jdk_43_method_46_code (1 : Nat) (Option.some (Jvm.ClassFile.FieldType.array Jvm.ClassFile.FieldType.byte))).before args0 about1 = true := code_word (m := ⟨8, 3⟩) (meth := k8m3) (c := k8c3) (by decide +kernel) rfl rfl rfl (by decide +kernel)
set_option maxRecDepth 65536 in
theorem w_c4 : (Jvm.Cond.code ({ cls := "java/lang/String", name := "<init>", desc := "([BB)V" } : Jvm.MethodName) jdk_42_method_151_code (3 : Nat) (Option.none : Option Jvm.ClassFile.FieldType)).before args0 about1 = true := code_word (m := ⟨7, 3⟩) (meth := k7m3) (c := k7c3) (by decide +kernel) rfl rfl rfl (by decide +kernel)
set_option maxRecDepth 65536 in
theorem w_c5 : (Jvm.Cond.code ({ cls := "java/lang/Object", name := "<init>", desc := "()V" } : Jvm.MethodName) object_method_1_code (1 : Nat) (Option.none : Option Jvm.ClassFile.FieldType)).before args0 about1 = true := code_word (m := ⟨0, 0⟩) (meth := k0m0) (c := k0c0) (by decide +kernel) rfl rfl rfl (by decide +kernel)
set_option maxRecDepth 65536 in
theorem w_c6 : (Jvm.Cond.code ({ cls := "com/example/zhengzi/zhengzi/CorrectionScore", name := "<init>", desc := "(JJJJ)V" } : Jvm.MethodName) prog_12_method_1_code (9 : Nat) (Option.none : Option Jvm.ClassFile.FieldType)).before args0 about1 = true := code_word (m := ⟨10, 0⟩) (meth := k10m0) (c := k10c0) (by decide +kernel) rfl rfl rfl (by decide +kernel)
set_option maxRecDepth 65536 in
theorem w_c7 : (Jvm.Cond.code ({ cls := "java/lang/Record", name := "<init>", desc := "()V" } : Jvm.MethodName) jdk_30_method_1_code (1 : Nat) (Option.none : Option Jvm.ClassFile.FieldType)).before args0 about1 = true := code_word (m := ⟨9, 0⟩) (meth := k9m0) (c := k9c0) (by decide +kernel) rfl rfl rfl (by decide +kernel)
set_option maxRecDepth 65536 in
theorem w_c8 : (Jvm.Cond.code ({ cls := "com/example/zhengzi/zhengzi/CorrectionScore", name := "of", desc := "(Ljava/lang/String;Ljava/lang/String;Ljava/lang/String;)Lcom/example/zhengzi/zhengzi/CorrectionScore;" } : Jvm.MethodName) prog_12_method_2_code (4 : Nat) (Option.some (Jvm.ClassFile.FieldType.object "com/example/zhengzi/zhengzi/CorrectionScore"))).before args0 about1 = true := code_word (m := ⟨10, 1⟩) (meth := k10m1) (c := k10c1) (by decide +kernel) rfl rfl rfl (by decide +kernel)
set_option maxRecDepth 65536 in
theorem w_c9 : (Jvm.Cond.code ({ cls := "java/lang/String", name := "equals", desc := "(Ljava/lang/Object;)Z" } : Jvm.MethodName) jdk_42_method_66_code (3 : Nat) (Option.some Jvm.ClassFile.FieldType.boolean)).before args0 about1 = true := code_word (m := ⟨7, 1⟩) (meth := k7m1) (c := k7c1) (by decide +kernel) rfl rfl rfl (by decide +kernel)
set_option maxRecDepth 65536 in
theorem w_c10 : (Jvm.Cond.code ({ cls := "java/lang/StringLatin1", name := "equals", desc := "([B[B)Z" } : Jvm.MethodName) jdk_43_method_13_code (3 : Nat) (Option.some Jvm.ClassFile.FieldType.boolean)).before args0 about1 = true := code_word (m := ⟨8, 2⟩) (meth := k8m2) (c := k8c2) (by decide +kernel) rfl rfl rfl (by decide +kernel)
set_option maxRecDepth 65536 in
theorem w_c11 : (Jvm.Cond.code ({ cls := "com/example/zhengzi/zhengzi/CorrectionScore", name := "pairs", desc := "()J" } : Jvm.MethodName) prog_12_method_7_code (1 : Nat) (Option.some Jvm.ClassFile.FieldType.long)).before args0 about1 = true := code_word (m := ⟨10, 3⟩) (meth := k10m3) (c := k10c3) (by decide +kernel) rfl rfl rfl (by decide +kernel)
set_option maxRecDepth 65536 in
theorem w_c12 : (Jvm.Cond.code ({ cls := "com/example/zhengzi/zhengzi/CorrectionScore", name := "plus", desc := "(Lcom/example/zhengzi/zhengzi/CorrectionScore;)Lcom/example/zhengzi/zhengzi/CorrectionScore;" } : Jvm.MethodName) prog_12_method_6_code (2 : Nat) (Option.some (Jvm.ClassFile.FieldType.object "com/example/zhengzi/zhengzi/CorrectionScore"))).before args0 about1 = true := code_word (m := ⟨10, 2⟩) (meth := k10m2) (c := k10c2) (by decide +kernel) rfl rfl rfl (by decide +kernel)
def codes1 : List Jvm.Cond := [Jvm.Cond.code x code maxLocals ret, Jvm.Cond.code ({ cls := "java/lang/String", name := "valueOf", desc := "(C)Ljava/lang/String;" } : Jvm.MethodName) jdk_42_method_139_code (1 : Nat) (Option.some (Jvm.ClassFile.FieldType.object "java/lang/String")), Jvm.Cond.code ({ cls := "java/lang/StringLatin1", name := "canEncode", desc := "(C)Z" } : Jvm.MethodName) jdk_43_method_3_code (1 : Nat) (Option.some Jvm.ClassFile.FieldType.boolean), Jvm.Cond.code ({ cls := "java/lang/StringLatin1", name := "toBytes", desc := "(C)[B" } : Jvm.MethodName) jdk_43_method_46_code (1 : Nat) (Option.some (Jvm.ClassFile.FieldType.array Jvm.ClassFile.FieldType.byte)), Jvm.Cond.code ({ cls := "java/lang/String", name := "<init>", desc := "([BB)V" } : Jvm.MethodName) jdk_42_method_151_code (3 : Nat) (Option.none : Option Jvm.ClassFile.FieldType), Jvm.Cond.code ({ cls := "java/lang/Object", name := "<init>", desc := "()V" } : Jvm.MethodName) object_method_1_code (1 : Nat) (Option.none : Option Jvm.ClassFile.FieldType), Jvm.Cond.code ({ cls := "com/example/zhengzi/zhengzi/CorrectionScore", name := "<init>", desc := "(JJJJ)V" } : Jvm.MethodName) prog_12_method_1_code (9 : Nat) (Option.none : Option Jvm.ClassFile.FieldType), Jvm.Cond.code ({ cls := "java/lang/Record", name := "<init>", desc := "()V" } : Jvm.MethodName) jdk_30_method_1_code (1 : Nat) (Option.none : Option Jvm.ClassFile.FieldType), Jvm.Cond.code ({ cls := "com/example/zhengzi/zhengzi/CorrectionScore", name := "of", desc := "(Ljava/lang/String;Ljava/lang/String;Ljava/lang/String;)Lcom/example/zhengzi/zhengzi/CorrectionScore;" } : Jvm.MethodName) prog_12_method_2_code (4 : Nat) (Option.some (Jvm.ClassFile.FieldType.object "com/example/zhengzi/zhengzi/CorrectionScore")), Jvm.Cond.code ({ cls := "java/lang/String", name := "equals", desc := "(Ljava/lang/Object;)Z" } : Jvm.MethodName) jdk_42_method_66_code (3 : Nat) (Option.some Jvm.ClassFile.FieldType.boolean), Jvm.Cond.code ({ cls := "java/lang/StringLatin1", name := "equals", desc := "([B[B)Z" } : Jvm.MethodName) jdk_43_method_13_code (3 : Nat) (Option.some Jvm.ClassFile.FieldType.boolean), Jvm.Cond.code ({ cls := "com/example/zhengzi/zhengzi/CorrectionScore", name := "pairs", desc := "()J" } : Jvm.MethodName) prog_12_method_7_code (1 : Nat) (Option.some Jvm.ClassFile.FieldType.long), Jvm.Cond.code ({ cls := "com/example/zhengzi/zhengzi/CorrectionScore", name := "plus", desc := "(Lcom/example/zhengzi/zhengzi/CorrectionScore;)Lcom/example/zhengzi/zhengzi/CorrectionScore;" } : Jvm.MethodName) prog_12_method_6_code (2 : Nat) (Option.some (Jvm.ClassFile.FieldType.object "com/example/zhengzi/zhengzi/CorrectionScore"))]
set_option maxRecDepth 65536 in
theorem codes_eq : words1.filter isCode = codes1 := rfl
theorem w_codes : ∀ c ∈ words1.filter isCode, c.before args0 about1 = true := by
  rw [codes_eq]
  intro c hc
  simp only [codes1, List.mem_cons, List.not_mem_nil, or_false] at hc
  rcases hc with rfl | rfl | rfl | rfl | rfl | rfl | rfl | rfl | rfl | rfl | rfl | rfl | rfl
  · exact w_c0
  · exact w_c1
  · exact w_c2
  · exact w_c3
  · exact w_c4
  · exact w_c5
  · exact w_c6
  · exact w_c7
  · exact w_c8
  · exact w_c9
  · exact w_c10
  · exact w_c11
  · exact w_c12
set_option maxRecDepth 65536 in
theorem w_t1 : (words1.take 24).all (fun c => isCode c || c.before args0 about1) = true := by decide +kernel
set_option maxRecDepth 65536 in
theorem w_t2 : ((words1.drop 24).take 24).all (fun c => isCode c || c.before args0 about1) = true := by decide +kernel
set_option maxRecDepth 65536 in
theorem w_t3 : ((words1.drop 24).drop 24).all (fun c => isCode c || c.before args0 about1) = true := by decide +kernel
theorem w_tables : (allAtoms (Jvm.Cond.code x code maxLocals ret :: tables_1)).before args0 about1 = true := by
  rw [allAtoms_all]
  show words1.all (fun c => c.before args0 about1) = true
  refine all_split ?_ w_codes
  rw [← List.take_append_drop 24 words1, List.all_append, w_t1, ← List.take_append_drop 24 (words1.drop 24), List.all_append, w_t2, w_t3]
  rfl
set_option maxRecDepth 65536 in
theorem w_rest : rest_1_c.before args0 about1 = true := by decide +kernel
set_option maxRecDepth 65536 in
theorem w_case : (Jvm.Cond.and given_1 narrow_1).before args0 about1 = true := by decide +kernel
theorem w_applies : (headSpec (Jvm.Cond.code x code maxLocals ret :: tables_1) room_1).applies x e0.platform about1 = true :=
  (Spec.applies_iff w_frames).mpr ⟨w_running, w_runnable, w_alone, w_named, w_hears, w_ripe, w_room, w_tables⟩
theorem atStart : AtStart classFile x code maxLocals ret World_1 tables_1 room_1 Calls_1 rest_1 Pre_1 launch0 p0 e0 about1 theMethod args0 below0 :=
  ⟨lists_1, trivial, launch0.admits_env _ _ _, launch0.least_env, fairChoices_fair.cas, fairChoices_fair.clock, w_frames, w_args, w_heap, w_applies, trivial, w_rest, w_case⟩
end start1
theorem witness_1 : WitnessClaimed_1 := ⟨start1.p0, start1.e0, start1.about1, start1.theMethod, start1.args0, start1.below0, start1.atStart⟩
end Jvm.Pilot.@@N@@
