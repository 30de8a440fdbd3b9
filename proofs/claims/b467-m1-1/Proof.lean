import JvmDerived
import JvmDerived.Pilot.@@N@@Statement
import JvmDerived.Pilot.@@N@@Code
set_option linter.unusedVariables false
set_option linter.unusedSimpArgs false
namespace Jvm.RoadKit
open Sem ClassFile Op Lib Jvm.Stand Jvm.Free Jvm.LawKit
section New
variable {p : Program} {l : Launch} {e : Env} {R : Room} {s : State} {m : MethodId} {args : Array Value} {below : List Frame} {meth : Method} {c : Code} {T : State} {locs : List Loc} {cells slots : Nat}
theorem retI (X : Stand p l e R s m args below meth c T locs cells slots) (hx : p.tables.exec = Jvm.exec) {pc : Nat} {Ls : Array Slot} {z : Int32} {rest : List Value} (hret : meth.sig.returnType = some .int) (hd : decode c.code pc = .ok (.ireturn, 1)) {fs : List Frame}
    (hl : ∀ (f : JFrame) (acts : List Action), f.method = m → f.locked = none → f.entered = [] → (doReturn e (T.setTop f) acts (some (.int z))).1 = T.setFrames fs) : Steps p.tables e below (T.setTop (mkF m pc Ls (.int z :: rest))) (T.setFrames fs) :=
  retOut X hx hret rfl (Or.inl ⟨rfl, Or.inl rfl, z, rfl⟩) hd hl
theorem retJ (X : Stand p l e R s m args below meth c T locs cells slots) (hx : p.tables.exec = Jvm.exec) {pc : Nat} {Ls : Array Slot} {z : Int64} {rest : List Value} (hret : meth.sig.returnType = some .long) (hd : decode c.code pc = .ok (.lreturn, 1)) {fs : List Frame}
    (hl : ∀ (f : JFrame) (acts : List Action), f.method = m → f.locked = none → f.entered = [] → (doReturn e (T.setTop f) acts (some (.long z))).1 = T.setFrames fs) : Steps p.tables e below (T.setTop (mkF m pc Ls (.long z :: rest))) (T.setFrames fs) :=
  retOut X hx hret rfl (Or.inr (Or.inl ⟨rfl, rfl, z, rfl⟩)) hd hl
theorem retA (X : Stand p l e R s m args below meth c T locs cells slots) (hx : p.tables.exec = Jvm.exec) {pc : Nat} {Ls : Array Slot} {w : Value} {rest : List Value} {t : FieldType} (hret : meth.sig.returnType = some t) (ht : t.isReference = true) (hn : narrow t w = w) (hw : w.isRef = true) (hd : decode c.code pc = .ok (.areturn, 1)) {fs : List Frame}
    (hl : ∀ (f : JFrame) (acts : List Action), f.method = m → f.locked = none → f.entered = [] → (doReturn e (T.setTop f) acts (some w)).1 = T.setFrames fs) : Steps p.tables e below (T.setTop (mkF m pc Ls (w :: rest))) (T.setFrames fs) :=
  retOut X hx hret hn (Or.inr (Or.inr (Or.inr (Or.inr ⟨rfl, ht, hw⟩)))) hd hl
end New
end Jvm.RoadKit
namespace Jvm.Pilot.@@N@@
open Jvm Jvm.ClassFile Sem Op Lib Jvm.Free Jvm.Stand Jvm.LawKit Jvm.RoadKit Bundle Jvm.Pilot.@@N@@.Jvm.D
theorem own_ext {h0 h : Heap} (K : Keep h0 h []) : Ext h0 h := ⟨K.1, fun a c q => K.2.1 a c q nin0⟩

def own_max (x y : Int32) : Int32 := if x < y then y else x
def own_min (x y : Int32) : Int32 := if y < x then y else x
def own_sh (s1 e1 s2 e2 : Int32) : Int32 := if (0 : Int32) < e1 - s1 then (if (0 : Int32) < e2 - s2 then (if s1 < e2 then (if s2 < e1 then 1 else 0) else 0) else 0) else 0
theorem own_nn (x : Int32) : 0 ≤ (x &&& (2147483647 : Int32)).toInt := (c_and x (2147483647 : Int32) (by decide)).1
theorem own_key {s1 e1 s2 e2 : Int32} (h1 : 0 ≤ s1.toInt) (h2 : 0 ≤ e1.toInt) (h3 : 0 ≤ s2.toInt) (h4 : 0 ≤ e2.toInt) : own_sh s1 e1 s2 e2 = if own_max s1 s2 < own_min e1 e2 then 1 else 0 := by
  have z : (0 : Int32).toInt = 0 := by decide
  have a1 := c_isub e1 s1
  have a2 := c_isub e2 s2
  have r1 := rng32 s1
  have r2 := rng32 e1
  have r3 := rng32 s2
  have r4 := rng32 e2
  have r5 := rng32 (e1 - s1)
  have r6 := rng32 (e2 - s2)
  unfold own_sh own_max own_min
  simp only [Int32.lt_iff_toInt_lt, z]
  repeat' split
  all_goals first | rfl | omega
theorem own_key' {s1 e1 s2 e2 : Int32} (h1 : 0 ≤ s1.toInt) (h2 : 0 ≤ e1.toInt) (h3 : 0 ≤ s2.toInt) (h4 : 0 ≤ e2.toInt) : own_sh s2 e2 s1 e1 = if own_max s1 s2 < own_min e1 e2 then 1 else 0 := by
  rw [← own_key h1 h2 h3 h4]
  unfold own_sh
  repeat' split
  all_goals first | rfl | contradiction
theorem own_pn0 : plainName "java/lang/Record" = true := by first | (simp [plainName, overriddenIn]; done) | decide +kernel
theorem own_d2_0 : decode jdk_30_method_1_code 0 = .ok (.aload_n 0, 1) := by decide +kernel
theorem own_d2_1 : decode jdk_30_method_1_code 1 = .ok (.invokespecial 1, 3) := by decide +kernel
theorem own_d2_4 : decode jdk_30_method_1_code 4 = .ok (.return_, 1) := by decide +kernel
def own_Q2 (Z : State) (xthis : Addr) (h0 : Heap) (n0 : Nat) (v : Option Value) (h : Heap) (L : List Loc) : Prop := v = none ∧ Fr n0 L ∧ h = h0
theorem own_ef2 (m : MethodId) (xthis : Addr) : entryFrame m #[(.ref xthis)] 1 = mkF m 0 #[.val (.ref xthis)] [] := by first | (simp [entryFrame, mkF, argsToLocals, Value.category]; done) | rfl
set_option maxRecDepth 65536 in
set_option maxHeartbeats 40000000 in
theorem own_rm2 (l : Launch) (Z : State) (a0 : Array Value) (hw : ∀ d ∈ tables_1, d.before a0 Z = true) (ws : List Jvm.Cond) (xthis : Addr) (h0 : Heap) (n0 : Nat) (Z0 : n0 ≤ h0.size)  :
    MetFree l (⟨"java/lang/Record", "<init>", "()V"⟩ : MethodName) (head1 (Jvm.Cond.code (⟨"java/lang/Record", "<init>", "()V"⟩ : MethodName) jdk_30_method_1_code 1 none :: ws) ({ frames := 1, cells := 0, slots := 0, locals := 12 } : Room)) (fun a U => a = #[(.ref xthis)] ∧ Z.Warmed39 U.vm ∧ U.heap = h0) (fun _ _ _ _ _ => True) (fun _ U o U' => ∃ v L, o = .returned v ∧ own_Q2 Z xthis h0 n0 v U'.heap L ∧ FrameEnd U o U' L ({ frames := 1, cells := 0, slots := 0, locals := 12 } : Room).cells ({ frames := 1, cells := 0, slots := 0, locals := 12 } : Room).slots) := by
  refine MetFree.of_bodySF (plainFor_of_name own_pn0) hisR ?_
  intro p e s m args below meth c s₁ Bd hml0 hP hK
  obtain ⟨rfl, hZ, hh⟩ := hP
  have hx := Bd.exec
  have hby := Bd.bytes
  have hml : c.maxLocals = 1 := hml0
  have hown : s.vm.findClass "java/lang/Record" = some m.cls := findClass_of_methodNamed Bd.named
  have hnm := (name_of_methodNamed Bd.named Bd.method).1
  have X0 : Stand p l e ({ frames := 1, cells := 0, slots := 0, locals := 12 } : Room) s m #[(.ref xthis)] below meth c s₁ [] 0 0 := Stand.of_body Bd
  have e0 : s₁.heap = h0 := by rw [← hh, Bd.state]; rfl
  have N0 := Fr.nil n0
  have pre0 : ∀ t, Steps p.tables e below (s₁.setTop (mkF m 0 #[.val (.ref xthis)] [])) t → Steps p.tables e below (s₁.setTop (entryFrame m #[(.ref xthis)] 1)) t := fun t k => castTop (own_ef2 m xthis) k
  obtain ⟨T1, X1, e1, st1⟩ := initO X0 hx hZ hown (hw _ (List.mem_of_getElem? (i := 12) rfl)) (hw _ (List.mem_of_getElem? (i := 13) rfl)) (hw _ (List.mem_of_getElem? (i := 14) rfl)) e0 (g := (mkF m 1 #[.val (.ref xthis)] [(.ref xthis)])) rfl (by rw [hml]; rfl) rfl (hb hby own_d2_1) (by decide) (W := 0) (by show 2 * 0 + _ ≤ _; exact Nat.le_of_eq rfl) (by decide)
  obtain ⟨fs, hr, hrun, hended, hW, hsame⟩ := X1.leave (v := none) (fun _ => rfl)
  refine ⟨_, _, pre0 _ ?_, hrun, hended, _, _, rfl, ?_, ⟨_, rfl⟩, hW, hsame.mono (by decide) (by decide)⟩
  · show Steps p.tables e below (s₁.setTop (mkF m 0 #[.val (.ref xthis)] [])) _
    refine XS.aloadN X0.here hx rfl (hb hby own_d2_0) rfl rfl ?_
    show Steps p.tables e below (s₁.setTop (mkF m 1 #[.val (.ref xthis)] [(.ref xthis)])) _
    refine st1 _ ?_
    show Steps p.tables e below (T1.setTop (mkF m 4 #[.val (.ref xthis)] [])) _
    exact X1.returnOut hx Bd.returns (hb hby own_d2_4) hr
  · show own_Q2 Z xthis h0 n0 _ T1.heap _
    rw [e1]
    exact ⟨rfl, N0, rfl⟩
theorem own_pn1 : plainName "com/example/kura/kura/registry/CountryFormat$Span" = true := by first | (simp [plainName, overriddenIn]; done) | decide +kernel
theorem own_pd0 : parseMethodDescriptor "()V" = some ⟨[], none⟩ := by decide +kernel
theorem own_d1_0 : decode prog_14_method_1_code 0 = .ok (.aload_n 0, 1) := by decide +kernel
theorem own_d1_1 : decode prog_14_method_1_code 1 = .ok (.invokespecial 3, 3) := by decide +kernel
theorem own_d1_4 : decode prog_14_method_1_code 4 = .ok (.aload_n 0, 1) := by decide +kernel
theorem own_d1_5 : decode prog_14_method_1_code 5 = .ok (.iload_n 1, 1) := by decide +kernel
theorem own_d1_6 : decode prog_14_method_1_code 6 = .ok (.putfield 9, 3) := by decide +kernel
theorem own_d1_9 : decode prog_14_method_1_code 9 = .ok (.aload_n 0, 1) := by decide +kernel
theorem own_d1_10 : decode prog_14_method_1_code 10 = .ok (.iload_n 2, 1) := by decide +kernel
theorem own_d1_11 : decode prog_14_method_1_code 11 = .ok (.putfield 15, 3) := by decide +kernel
theorem own_d1_14 : decode prog_14_method_1_code 14 = .ok (.return_, 1) := by decide +kernel
def own_Q1 (Z : State) (xthis : Addr) (x1 : Int32) (x2 : Int32) (h0 : Heap) (n0 : Nat) (v : Option Value) (h : Heap) (L : List Loc) : Prop := v = none ∧ Fr n0 L ∧ Keep h0 h [xthis] ∧ Exa Z h xthis "com/example/kura/kura/registry/CountryFormat$Span" ∧ Fld Z h xthis "com/example/kura/kura/registry/CountryFormat$Span" "start" "I" (.int x1) ∧ Fld Z h xthis "com/example/kura/kura/registry/CountryFormat$Span" "end" "I" (.int x2)
theorem own_ef1 (m : MethodId) (xthis : Addr) (x1 : Int32) (x2 : Int32) : entryFrame m #[(.ref xthis), (.int x1), (.int x2)] 3 = mkF m 0 #[.val (.ref xthis), .val (.int x1), .val (.int x2)] [] := by first | (simp [entryFrame, mkF, argsToLocals, Value.category]; done) | rfl
set_option maxRecDepth 65536 in
set_option maxHeartbeats 40000000 in
theorem own_rm1 (l : Launch) (Z : State) (a0 : Array Value) (hw : ∀ d ∈ tables_1, d.before a0 Z = true) (ws : List Jvm.Cond) (xthis : Addr) (x1 : Int32) (x2 : Int32) (h0 : Heap) (n0 : Nat) (Z0 : n0 ≤ h0.size) (E_xthis : Exa Z h0 xthis "com/example/kura/kura/registry/CountryFormat$Span") (F_start_xthis : Fld Z h0 xthis "com/example/kura/kura/registry/CountryFormat$Span" "start" "I" (.int (0 : Int32))) (F_end_xthis : Fld Z h0 xthis "com/example/kura/kura/registry/CountryFormat$Span" "end" "I" (.int (0 : Int32))) (g_xthis : n0 ≤ xthis) :
    MetFree l (⟨"com/example/kura/kura/registry/CountryFormat$Span", "<init>", "(II)V"⟩ : MethodName) (head1 (Jvm.Cond.code (⟨"com/example/kura/kura/registry/CountryFormat$Span", "<init>", "(II)V"⟩ : MethodName) prog_14_method_1_code 3 none :: ws) ({ frames := 2, cells := 0, slots := 0, locals := 24 } : Room)) (fun a U => a = #[(.ref xthis), (.int x1), (.int x2)] ∧ Z.Warmed39 U.vm ∧ U.heap = h0) (fun _ _ _ _ _ => True) (fun _ U o U' => ∃ v L, o = .returned v ∧ own_Q1 Z xthis x1 x2 h0 n0 v U'.heap L ∧ FrameEnd U o U' L ({ frames := 2, cells := 0, slots := 0, locals := 24 } : Room).cells ({ frames := 2, cells := 0, slots := 0, locals := 24 } : Room).slots) := by
  refine MetFree.of_bodySF (plainFor_of_name own_pn1) hisR ?_
  intro p e s m args below meth c s₁ Bd hml0 hP hK
  obtain ⟨rfl, hZ, hh⟩ := hP
  have hx := Bd.exec
  have hby := Bd.bytes
  have hml : c.maxLocals = 3 := hml0
  have hown : s.vm.findClass "com/example/kura/kura/registry/CountryFormat$Span" = some m.cls := findClass_of_methodNamed Bd.named
  have hnm := (name_of_methodNamed Bd.named Bd.method).1
  have X0 : Stand p l e ({ frames := 2, cells := 0, slots := 0, locals := 24 } : Room) s m #[(.ref xthis), (.int x1), (.int x2)] below meth c s₁ [] 0 0 := Stand.of_body Bd
  have e0 : s₁.heap = h0 := by rw [← hh, Bd.state]; rfl
  have N0 := Fr.nil n0
  have pre0 : ∀ t, Steps p.tables e below (s₁.setTop (mkF m 0 #[.val (.ref xthis), .val (.int x1), .val (.int x2)] [])) t → Steps p.tables e below (s₁.setTop (entryFrame m #[(.ref xthis), (.int x1), (.int x2)] 3)) t := fun t k => castTop (own_ef1 m xthis x1 x2) k
  have K0 : Keep h0 h0 [xthis] := Keep.refl _ _
  obtain ⟨_, _, ⟨T1, L1, k1, n1⟩, -, X1, ⟨Lc1, hQ1, l1, y1, z1⟩, st1⟩ := X0.specialBack hx (y := (⟨"java/lang/Record", "<init>", "()V"⟩ : MethodName)) rfl hown (mvT hZ (hw _ (List.mem_of_getElem? (i := 7) rfl))) (mvT hZ (hw _ (List.mem_of_getElem? (i := 8) rfl))) (mvT hZ (hw _ (List.mem_of_getElem? (i := 11) rfl))) (by decide) (backOf (W := 0) (own_rm2 l Z a0 hw [] xthis h0 n0 Z0 ) hZ (hw _ (List.mem_of_getElem? (i := 11) rfl)) (hw _ (List.mem_of_getElem? (i := 10) rfl)) (by decide) (by decide)) (g := (mkF m 1 #[.val (.ref xthis), .val (.int x1), .val (.int x2)] [(.ref xthis)])) rfl (by rw [hml]; rfl) (Steps.refl _) (a := xthis) (argsL := []) (rest := []) (lenOf own_pd0 rfl) rfl (by show 2 * 0 + _ ≤ _; exact Nat.le_of_eq rfl) (hb hby own_d1_1) (fun _ _ => ⟨rfl, e0, (by decide : 0 + 0 ≤ _), (by decide : 0 + 0 ≤ _)⟩)
  dsimp only [Pt.U, Pt.locs, Pt.cells, Pt.slots] at X1 l1 y1 z1 st1 hQ1
  subst l1 y1 z1
  obtain ⟨rfl, N1q, eh1⟩ := hQ1
  have N1 := Fr.app N0 N1q
  obtain ⟨T2, h2, X2, e2, W2, st2⟩ := putF X1 hx hZ hown (host := "") (Or.inl (hw _ (List.mem_of_getElem? (i := 15) rfl))) Via.refl eh1 F_start_xthis E_xthis (Or.inr ⟨(hw _ (List.mem_of_getElem? (i := 16) rfl)), rfl, hnm⟩) (hw _ (List.mem_of_getElem? (i := 2) rfl)) (ty := .int) (by decide) rfl rfl (g := (mkF m 6 #[.val (.ref xthis), .val (.int x1), .val (.int x2)] [(.int x1), (.ref xthis)])) rfl rfl (hb hby own_d1_6)
  have F3 : Fld Z h2 xthis "com/example/kura/kura/registry/CountryFormat$Span" "start" "I" (.int x1) := F_start_xthis.same W2
  have F4 : Exa Z h2 xthis "com/example/kura/kura/registry/CountryFormat$Span" := E_xthis.wr W2
  have F5 : Fld Z h2 xthis "com/example/kura/kura/registry/CountryFormat$Span" "end" "I" (.int (0 : Int32)) := F_end_xthis.other W2 (Or.inr (slot_ne (Or.inr (hw _ (List.mem_of_getElem? (i := 18) rfl))) (Or.inr (hw _ (List.mem_of_getElem? (i := 16) rfl))) (by decide) (t := .int) (t' := .int) (by decide) (by decide)))
  have N2 := Fr.snoc X2 N1 g_xthis
  have Z2 : n0 ≤ h2.size := Nat.le_trans Z0 (Keep.of_wr W2).1
  have K2 : Keep h0 h2 [xthis] := K0.wr W2 (Or.inl (List.mem_of_getElem? (i := 0) rfl))
  obtain ⟨T6, h6, X6, e6, W6, st6⟩ := putF X2 hx hZ hown (host := "") (Or.inl (hw _ (List.mem_of_getElem? (i := 17) rfl))) Via.refl e2 F5 F4 (Or.inr ⟨(hw _ (List.mem_of_getElem? (i := 18) rfl)), rfl, hnm⟩) (hw _ (List.mem_of_getElem? (i := 2) rfl)) (ty := .int) (by decide) rfl rfl (g := (mkF m 11 #[.val (.ref xthis), .val (.int x1), .val (.int x2)] [(.int x2), (.ref xthis)])) rfl rfl (hb hby own_d1_11)
  have F7 : Fld Z h6 xthis "com/example/kura/kura/registry/CountryFormat$Span" "end" "I" (.int x2) := F5.same W6
  have F8 : Exa Z h6 xthis "com/example/kura/kura/registry/CountryFormat$Span" := F4.wr W6
  have F9 : Fld Z h6 xthis "com/example/kura/kura/registry/CountryFormat$Span" "start" "I" (.int x1) := F3.other W6 (Or.inr (slot_ne (Or.inr (hw _ (List.mem_of_getElem? (i := 16) rfl))) (Or.inr (hw _ (List.mem_of_getElem? (i := 18) rfl))) (by decide) (t := .int) (t' := .int) (by decide) (by decide)))
  have N6 := Fr.snoc X6 N2 g_xthis
  have Z6 : n0 ≤ h6.size := Nat.le_trans Z2 (Keep.of_wr W6).1
  have K6 : Keep h0 h6 [xthis] := K2.wr W6 (Or.inl (List.mem_of_getElem? (i := 0) rfl))
  obtain ⟨fs, hr, hrun, hended, hW, hsame⟩ := X6.leave (v := none) (fun _ => rfl)
  refine ⟨_, _, pre0 _ ?_, hrun, hended, _, _, rfl, ?_, ⟨_, rfl⟩, hW, hsame.mono (by decide) (by decide)⟩
  · show Steps p.tables e below (s₁.setTop (mkF m 0 #[.val (.ref xthis), .val (.int x1), .val (.int x2)] [])) _
    refine XS.aloadN X0.here hx rfl (hb hby own_d1_0) rfl rfl ?_
    show Steps p.tables e below (s₁.setTop (mkF m 1 #[.val (.ref xthis), .val (.int x1), .val (.int x2)] [(.ref xthis)])) _
    refine st1.trans ?_
    show Steps p.tables e below (T1.setTop (mkF m 4 #[.val (.ref xthis), .val (.int x1), .val (.int x2)] [])) _
    refine XS.aloadN X1.here hx rfl (hb hby own_d1_4) rfl rfl ?_
    show Steps p.tables e below (T1.setTop (mkF m 5 #[.val (.ref xthis), .val (.int x1), .val (.int x2)] [(.ref xthis)])) _
    refine XS.iloadN X1.here hx rfl (hb hby own_d1_5) rfl ?_
    show Steps p.tables e below (T1.setTop (mkF m 6 #[.val (.ref xthis), .val (.int x1), .val (.int x2)] [(.int x1), (.ref xthis)])) _
    refine st2 _ ?_
    show Steps p.tables e below (T2.setTop (mkF m 9 #[.val (.ref xthis), .val (.int x1), .val (.int x2)] [])) _
    refine XS.aloadN X2.here hx rfl (hb hby own_d1_9) rfl rfl ?_
    show Steps p.tables e below (T2.setTop (mkF m 10 #[.val (.ref xthis), .val (.int x1), .val (.int x2)] [(.ref xthis)])) _
    refine XS.iloadN X2.here hx rfl (hb hby own_d1_10) rfl ?_
    show Steps p.tables e below (T2.setTop (mkF m 11 #[.val (.ref xthis), .val (.int x1), .val (.int x2)] [(.int x2), (.ref xthis)])) _
    refine st6 _ ?_
    show Steps p.tables e below (T6.setTop (mkF m 14 #[.val (.ref xthis), .val (.int x1), .val (.int x2)] [])) _
    exact X6.returnOut hx Bd.returns (hb hby own_d1_14) hr
  · show own_Q1 Z xthis x1 x2 h0 n0 _ T6.heap _
    rw [e6]
    exact ⟨rfl, N6, K6, F8, F9, F7⟩
theorem own_d4_0 : decode jdk_29_method_65_code 0 = .ok (.iload_n 0, 1) := by decide +kernel
theorem own_d4_1 : decode jdk_29_method_65_code 1 = .ok (.iload_n 1, 1) := by decide +kernel
theorem own_d4_2 : decode jdk_29_method_65_code 2 = .ok (.if_icmp .lt 7, 3) := by decide +kernel
theorem own_d4_5 : decode jdk_29_method_65_code 5 = .ok (.iload_n 0, 1) := by decide +kernel
theorem own_d4_6 : decode jdk_29_method_65_code 6 = .ok (.goto 4, 3) := by decide +kernel
theorem own_d4_9 : decode jdk_29_method_65_code 9 = .ok (.iload_n 1, 1) := by decide +kernel
theorem own_d4_10 : decode jdk_29_method_65_code 10 = .ok (.ireturn, 1) := by decide +kernel
def own_Q4 (Z : State) (x1 : Int32) (x2 : Int32) (h0 : Heap) (n0 : Nat) (v : Option Value) (h : Heap) (L : List Loc) : Prop := v = some (.int (own_max x1 x2)) ∧ Fr n0 L ∧ h = h0
theorem own_ef4 (m : MethodId) (x1 : Int32) (x2 : Int32) : entryFrame m #[(.int x1), (.int x2)] 2 = mkF m 0 #[.val (.int x1), .val (.int x2)] [] := by first | (simp [entryFrame, mkF, argsToLocals, Value.category]; done) | rfl
set_option maxRecDepth 65536 in
set_option maxHeartbeats 40000000 in
theorem own_rm4 (l : Launch) (Z : State) (a0 : Array Value) (hw : ∀ d ∈ tables_1, d.before a0 Z = true) (ws : List Jvm.Cond) (x1 : Int32) (x2 : Int32) (h0 : Heap) (n0 : Nat) (Z0 : n0 ≤ h0.size)  :
    MetFree l (⟨"java/lang/Math", "max", "(II)I"⟩ : MethodName) (head1 (Jvm.Cond.code (⟨"java/lang/Math", "max", "(II)I"⟩ : MethodName) jdk_29_method_65_code 2 (some .int) :: ws) ({ frames := 0, cells := 0, slots := 0, locals := 0 } : Room)) (fun a U => a = #[(.int x1), (.int x2)] ∧ Z.Warmed39 U.vm ∧ U.heap = h0) (fun _ _ _ _ _ => True) (fun _ U o U' => ∃ v L, o = .returned v ∧ own_Q4 Z x1 x2 h0 n0 v U'.heap L ∧ FrameEnd U o U' L ({ frames := 0, cells := 0, slots := 0, locals := 0 } : Room).cells ({ frames := 0, cells := 0, slots := 0, locals := 0 } : Room).slots) := by
  refine MetFree.of_bodySF (Jvm.Free.JP.mathPlain rfl (by decide +kernel)) hisR ?_
  intro p e s m args below meth c s₁ Bd hml0 hP hK
  obtain ⟨rfl, hZ, hh⟩ := hP
  have hx := Bd.exec
  have hby := Bd.bytes
  have hml : c.maxLocals = 2 := hml0
  have hown : s.vm.findClass "java/lang/Math" = some m.cls := findClass_of_methodNamed Bd.named
  have hnm := (name_of_methodNamed Bd.named Bd.method).1
  have X0 : Stand p l e ({ frames := 0, cells := 0, slots := 0, locals := 0 } : Room) s m #[(.int x1), (.int x2)] below meth c s₁ [] 0 0 := Stand.of_body Bd
  have e0 : s₁.heap = h0 := by rw [← hh, Bd.state]; rfl
  have N0 := Fr.nil n0
  have pre0 : ∀ t, Steps p.tables e below (s₁.setTop (mkF m 0 #[.val (.int x1), .val (.int x2)] [])) t → Steps p.tables e below (s₁.setTop (entryFrame m #[(.int x1), (.int x2)] 2)) t := fun t k => castTop (own_ef4 m x1 x2) k
  have pre1 : ∀ t, Steps p.tables e below (s₁.setTop (mkF m 2 #[.val (.int x1), .val (.int x2)] [(.int x2), (.int x1)])) t → Steps p.tables e below (s₁.setTop (entryFrame m #[(.int x1), (.int x2)] 2)) t := by
    intro t k
    refine pre0 _ ?_
    show Steps p.tables e below (s₁.setTop (mkF m 0 #[.val (.int x1), .val (.int x2)] [])) _
    refine XS.iloadN X0.here hx rfl (hb hby own_d4_0) rfl ?_
    show Steps p.tables e below (s₁.setTop (mkF m 1 #[.val (.int x1), .val (.int x2)] [(.int x1)])) _
    refine XS.iloadN X0.here hx rfl (hb hby own_d4_1) rfl ?_
    exact k
  by_cases hc2 : x1 < x2
  · obtain ⟨fs, hr, hrun, hended, hW, hsame⟩ := X0.leave (v := some (.int x2)) (fun h => by rw [Bd.returns] at h; cases h)
    have ev2 : (own_max x1 x2) = x2 := by
      simp [own_max, hc2]
    refine ⟨_, _, pre1 _ ?_, hrun, hended, _, _, rfl, ?_, ⟨_, rfl⟩, hW, hsame.mono (by decide) (by decide)⟩
    · show Steps p.tables e below (s₁.setTop (mkF m 2 #[.val (.int x1), .val (.int x2)] [(.int x2), (.int x1)])) _
      refine XS.icmpYes X0.here hx rfl (pc0 := 2) (pc' := 9) rfl (hb hby own_d4_2) rfl (tlt hc2).1 (by decide) (by decide) ?_
      show Steps p.tables e below (s₁.setTop (mkF m 9 #[.val (.int x1), .val (.int x2)] [])) _
      refine XS.iloadN X0.here hx rfl (hb hby own_d4_9) rfl ?_
      show Steps p.tables e below (s₁.setTop (mkF m 10 #[.val (.int x1), .val (.int x2)] [(.int x2)])) _
      exact retI X0 hx Bd.returns (hb hby own_d4_10) hr
    · show own_Q4 Z x1 x2 h0 n0 _ s₁.heap _
      rw [e0]
      exact ⟨(by rw [ev2]), N0, rfl⟩
  · obtain ⟨fs, hr, hrun, hended, hW, hsame⟩ := X0.leave (v := some (.int x1)) (fun h => by rw [Bd.returns] at h; cases h)
    have ev3 : (own_max x1 x2) = x1 := by
      simp [own_max, hc2]
    refine ⟨_, _, pre1 _ ?_, hrun, hended, _, _, rfl, ?_, ⟨_, rfl⟩, hW, hsame.mono (by decide) (by decide)⟩
    · show Steps p.tables e below (s₁.setTop (mkF m 2 #[.val (.int x1), .val (.int x2)] [(.int x2), (.int x1)])) _
      refine XS.icmpNo X0.here hx rfl (hb hby own_d4_2) rfl (flt hc2).1 ?_
      show Steps p.tables e below (s₁.setTop (mkF m 5 #[.val (.int x1), .val (.int x2)] [])) _
      refine XS.iloadN X0.here hx rfl (hb hby own_d4_5) rfl ?_
      show Steps p.tables e below (s₁.setTop (mkF m 6 #[.val (.int x1), .val (.int x2)] [(.int x1)])) _
      refine XS.goto X0.here hx rfl (pc0 := 6) (pc' := 10) rfl (hb hby own_d4_6) (by decide) (by decide) ?_
      show Steps p.tables e below (s₁.setTop (mkF m 10 #[.val (.int x1), .val (.int x2)] [(.int x1)])) _
      exact retI X0 hx Bd.returns (hb hby own_d4_10) hr
    · show own_Q4 Z x1 x2 h0 n0 _ s₁.heap _
      rw [e0]
      exact ⟨(by rw [ev3]), N0, rfl⟩
theorem own_d5_0 : decode jdk_29_method_69_code 0 = .ok (.iload_n 0, 1) := by decide +kernel
theorem own_d5_1 : decode jdk_29_method_69_code 1 = .ok (.iload_n 1, 1) := by decide +kernel
theorem own_d5_2 : decode jdk_29_method_69_code 2 = .ok (.if_icmp .gt 7, 3) := by decide +kernel
theorem own_d5_5 : decode jdk_29_method_69_code 5 = .ok (.iload_n 0, 1) := by decide +kernel
theorem own_d5_6 : decode jdk_29_method_69_code 6 = .ok (.goto 4, 3) := by decide +kernel
theorem own_d5_9 : decode jdk_29_method_69_code 9 = .ok (.iload_n 1, 1) := by decide +kernel
theorem own_d5_10 : decode jdk_29_method_69_code 10 = .ok (.ireturn, 1) := by decide +kernel
def own_Q5 (Z : State) (x1 : Int32) (x2 : Int32) (h0 : Heap) (n0 : Nat) (v : Option Value) (h : Heap) (L : List Loc) : Prop := v = some (.int (own_min x1 x2)) ∧ Fr n0 L ∧ h = h0
theorem own_ef5 (m : MethodId) (x1 : Int32) (x2 : Int32) : entryFrame m #[(.int x1), (.int x2)] 2 = mkF m 0 #[.val (.int x1), .val (.int x2)] [] := by first | (simp [entryFrame, mkF, argsToLocals, Value.category]; done) | rfl
set_option maxRecDepth 65536 in
set_option maxHeartbeats 40000000 in
theorem own_rm5 (l : Launch) (Z : State) (a0 : Array Value) (hw : ∀ d ∈ tables_1, d.before a0 Z = true) (ws : List Jvm.Cond) (x1 : Int32) (x2 : Int32) (h0 : Heap) (n0 : Nat) (Z0 : n0 ≤ h0.size)  :
    MetFree l (⟨"java/lang/Math", "min", "(II)I"⟩ : MethodName) (head1 (Jvm.Cond.code (⟨"java/lang/Math", "min", "(II)I"⟩ : MethodName) jdk_29_method_69_code 2 (some .int) :: ws) ({ frames := 0, cells := 0, slots := 0, locals := 0 } : Room)) (fun a U => a = #[(.int x1), (.int x2)] ∧ Z.Warmed39 U.vm ∧ U.heap = h0) (fun _ _ _ _ _ => True) (fun _ U o U' => ∃ v L, o = .returned v ∧ own_Q5 Z x1 x2 h0 n0 v U'.heap L ∧ FrameEnd U o U' L ({ frames := 0, cells := 0, slots := 0, locals := 0 } : Room).cells ({ frames := 0, cells := 0, slots := 0, locals := 0 } : Room).slots) := by
  refine MetFree.of_bodySF (Jvm.Free.JP.mathPlain rfl (by decide +kernel)) hisR ?_
  intro p e s m args below meth c s₁ Bd hml0 hP hK
  obtain ⟨rfl, hZ, hh⟩ := hP
  have hx := Bd.exec
  have hby := Bd.bytes
  have hml : c.maxLocals = 2 := hml0
  have hown : s.vm.findClass "java/lang/Math" = some m.cls := findClass_of_methodNamed Bd.named
  have hnm := (name_of_methodNamed Bd.named Bd.method).1
  have X0 : Stand p l e ({ frames := 0, cells := 0, slots := 0, locals := 0 } : Room) s m #[(.int x1), (.int x2)] below meth c s₁ [] 0 0 := Stand.of_body Bd
  have e0 : s₁.heap = h0 := by rw [← hh, Bd.state]; rfl
  have N0 := Fr.nil n0
  have pre0 : ∀ t, Steps p.tables e below (s₁.setTop (mkF m 0 #[.val (.int x1), .val (.int x2)] [])) t → Steps p.tables e below (s₁.setTop (entryFrame m #[(.int x1), (.int x2)] 2)) t := fun t k => castTop (own_ef5 m x1 x2) k
  have pre1 : ∀ t, Steps p.tables e below (s₁.setTop (mkF m 2 #[.val (.int x1), .val (.int x2)] [(.int x2), (.int x1)])) t → Steps p.tables e below (s₁.setTop (entryFrame m #[(.int x1), (.int x2)] 2)) t := by
    intro t k
    refine pre0 _ ?_
    show Steps p.tables e below (s₁.setTop (mkF m 0 #[.val (.int x1), .val (.int x2)] [])) _
    refine XS.iloadN X0.here hx rfl (hb hby own_d5_0) rfl ?_
    show Steps p.tables e below (s₁.setTop (mkF m 1 #[.val (.int x1), .val (.int x2)] [(.int x1)])) _
    refine XS.iloadN X0.here hx rfl (hb hby own_d5_1) rfl ?_
    exact k
  by_cases hc2 : x2 < x1
  · obtain ⟨fs, hr, hrun, hended, hW, hsame⟩ := X0.leave (v := some (.int x2)) (fun h => by rw [Bd.returns] at h; cases h)
    have ev2 : (own_min x1 x2) = x2 := by
      simp [own_min, hc2]
    refine ⟨_, _, pre1 _ ?_, hrun, hended, _, _, rfl, ?_, ⟨_, rfl⟩, hW, hsame.mono (by decide) (by decide)⟩
    · show Steps p.tables e below (s₁.setTop (mkF m 2 #[.val (.int x1), .val (.int x2)] [(.int x2), (.int x1)])) _
      refine XS.icmpYes X0.here hx rfl (pc0 := 2) (pc' := 9) rfl (hb hby own_d5_2) rfl (tlt hc2).2.2.1 (by decide) (by decide) ?_
      show Steps p.tables e below (s₁.setTop (mkF m 9 #[.val (.int x1), .val (.int x2)] [])) _
      refine XS.iloadN X0.here hx rfl (hb hby own_d5_9) rfl ?_
      show Steps p.tables e below (s₁.setTop (mkF m 10 #[.val (.int x1), .val (.int x2)] [(.int x2)])) _
      exact retI X0 hx Bd.returns (hb hby own_d5_10) hr
    · show own_Q5 Z x1 x2 h0 n0 _ s₁.heap _
      rw [e0]
      exact ⟨(by rw [ev2]), N0, rfl⟩
  · obtain ⟨fs, hr, hrun, hended, hW, hsame⟩ := X0.leave (v := some (.int x1)) (fun h => by rw [Bd.returns] at h; cases h)
    have ev3 : (own_min x1 x2) = x1 := by
      simp [own_min, hc2]
    refine ⟨_, _, pre1 _ ?_, hrun, hended, _, _, rfl, ?_, ⟨_, rfl⟩, hW, hsame.mono (by decide) (by decide)⟩
    · show Steps p.tables e below (s₁.setTop (mkF m 2 #[.val (.int x1), .val (.int x2)] [(.int x2), (.int x1)])) _
      refine XS.icmpNo X0.here hx rfl (hb hby own_d5_2) rfl (flt hc2).2.2.1 ?_
      show Steps p.tables e below (s₁.setTop (mkF m 5 #[.val (.int x1), .val (.int x2)] [])) _
      refine XS.iloadN X0.here hx rfl (hb hby own_d5_5) rfl ?_
      show Steps p.tables e below (s₁.setTop (mkF m 6 #[.val (.int x1), .val (.int x2)] [(.int x1)])) _
      refine XS.goto X0.here hx rfl (pc0 := 6) (pc' := 10) rfl (hb hby own_d5_6) (by decide) (by decide) ?_
      show Steps p.tables e below (s₁.setTop (mkF m 10 #[.val (.int x1), .val (.int x2)] [(.int x1)])) _
      exact retI X0 hx Bd.returns (hb hby own_d5_10) hr
    · show own_Q5 Z x1 x2 h0 n0 _ s₁.heap _
      rw [e0]
      exact ⟨(by rw [ev3]), N0, rfl⟩
theorem own_d7_0 : decode prog_14_method_2_code 0 = .ok (.aload_n 0, 1) := by decide +kernel
theorem own_d7_1 : decode prog_14_method_2_code 1 = .ok (.getfield 15, 3) := by decide +kernel
theorem own_d7_4 : decode prog_14_method_2_code 4 = .ok (.aload_n 0, 1) := by decide +kernel
theorem own_d7_5 : decode prog_14_method_2_code 5 = .ok (.getfield 9, 3) := by decide +kernel
theorem own_d7_8 : decode prog_14_method_2_code 8 = .ok (.isub, 1) := by decide +kernel
theorem own_d7_9 : decode prog_14_method_2_code 9 = .ok (.ireturn, 1) := by decide +kernel
def own_Q7 (Z : State) (xthis : Addr) (ys : Int32) (ye : Int32) (h0 : Heap) (n0 : Nat) (v : Option Value) (h : Heap) (L : List Loc) : Prop := v = some (.int (ye - ys)) ∧ Fr n0 L ∧ h = h0
theorem own_ef7 (m : MethodId) (xthis : Addr) : entryFrame m #[(.ref xthis)] 1 = mkF m 0 #[.val (.ref xthis)] [] := by first | (simp [entryFrame, mkF, argsToLocals, Value.category]; done) | rfl
set_option maxRecDepth 65536 in
set_option maxHeartbeats 40000000 in
theorem own_rm7 (l : Launch) (Z : State) (a0 : Array Value) (hw : ∀ d ∈ tables_1, d.before a0 Z = true) (ws : List Jvm.Cond) (xthis : Addr) (ys : Int32) (ye : Int32) (h0 : Heap) (n0 : Nat) (Z0 : n0 ≤ h0.size) (F_start_xthis : Fld Z h0 xthis "com/example/kura/kura/registry/CountryFormat$Span" "start" "I" (.int ys)) (F_end_xthis : Fld Z h0 xthis "com/example/kura/kura/registry/CountryFormat$Span" "end" "I" (.int ye)) :
    MetFree l (⟨"com/example/kura/kura/registry/CountryFormat$Span", "length", "()I"⟩ : MethodName) (head1 (Jvm.Cond.code (⟨"com/example/kura/kura/registry/CountryFormat$Span", "length", "()I"⟩ : MethodName) prog_14_method_2_code 1 (some .int) :: ws) ({ frames := 0, cells := 0, slots := 0, locals := 0 } : Room)) (fun a U => a = #[(.ref xthis)] ∧ Z.Warmed39 U.vm ∧ U.heap = h0) (fun _ _ _ _ _ => True) (fun _ U o U' => ∃ v L, o = .returned v ∧ own_Q7 Z xthis ys ye h0 n0 v U'.heap L ∧ FrameEnd U o U' L ({ frames := 0, cells := 0, slots := 0, locals := 0 } : Room).cells ({ frames := 0, cells := 0, slots := 0, locals := 0 } : Room).slots) := by
  refine MetFree.of_bodySF (plainFor_of_name own_pn1) hisR ?_
  intro p e s m args below meth c s₁ Bd hml0 hP hK
  obtain ⟨rfl, hZ, hh⟩ := hP
  have hx := Bd.exec
  have hby := Bd.bytes
  have hml : c.maxLocals = 1 := hml0
  have hown : s.vm.findClass "com/example/kura/kura/registry/CountryFormat$Span" = some m.cls := findClass_of_methodNamed Bd.named
  have hnm := (name_of_methodNamed Bd.named Bd.method).1
  have X0 : Stand p l e ({ frames := 0, cells := 0, slots := 0, locals := 0 } : Room) s m #[(.ref xthis)] below meth c s₁ [] 0 0 := Stand.of_body Bd
  have e0 : s₁.heap = h0 := by rw [← hh, Bd.state]; rfl
  have N0 := Fr.nil n0
  have pre0 : ∀ t, Steps p.tables e below (s₁.setTop (mkF m 0 #[.val (.ref xthis)] [])) t → Steps p.tables e below (s₁.setTop (entryFrame m #[(.ref xthis)] 1)) t := fun t k => castTop (own_ef7 m xthis) k
  obtain ⟨T1, X1, e1, st1⟩ := getF X0 hx hZ hown (host := "") (Or.inl (hw _ (List.mem_of_getElem? (i := 17) rfl))) Via.refl e0 F_end_xthis (g := (mkF m 1 #[.val (.ref xthis)] [(.ref xthis)])) rfl rfl (hb hby own_d7_1)
  obtain ⟨T2, X2, e2, st2⟩ := getF X1 hx hZ hown (host := "") (Or.inl (hw _ (List.mem_of_getElem? (i := 15) rfl))) Via.refl e1 F_start_xthis (g := (mkF m 5 #[.val (.ref xthis)] [(.ref xthis), (.int ye)])) rfl rfl (hb hby own_d7_5)
  obtain ⟨fs, hr, hrun, hended, hW, hsame⟩ := X2.leave (v := some (.int (ye - ys))) (fun h => by rw [Bd.returns] at h; cases h)
  refine ⟨_, _, pre0 _ ?_, hrun, hended, _, _, rfl, ?_, ⟨_, rfl⟩, hW, hsame.mono (by decide) (by decide)⟩
  · show Steps p.tables e below (s₁.setTop (mkF m 0 #[.val (.ref xthis)] [])) _
    refine XS.aloadN X0.here hx rfl (hb hby own_d7_0) rfl rfl ?_
    show Steps p.tables e below (s₁.setTop (mkF m 1 #[.val (.ref xthis)] [(.ref xthis)])) _
    refine st1 _ ?_
    show Steps p.tables e below (T1.setTop (mkF m 4 #[.val (.ref xthis)] [(.int ye)])) _
    refine XS.aloadN X1.here hx rfl (hb hby own_d7_4) rfl rfl ?_
    show Steps p.tables e below (T1.setTop (mkF m 5 #[.val (.ref xthis)] [(.ref xthis), (.int ye)])) _
    refine st2 _ ?_
    show Steps p.tables e below (T2.setTop (mkF m 8 #[.val (.ref xthis)] [(.int ys), (.int ye)])) _
    refine XS.isub X2.here hx rfl (hb hby own_d7_8) rfl ?_
    show Steps p.tables e below (T2.setTop (mkF m 9 #[.val (.ref xthis)] [(.int (ye - ys))])) _
    exact retI X2 hx Bd.returns (hb hby own_d7_9) hr
  · show own_Q7 Z xthis ys ye h0 n0 _ T2.heap _
    rw [e2]
    exact ⟨rfl, N0, rfl⟩
theorem own_pd1 : parseMethodDescriptor "()I" = some ⟨[], some .int⟩ := by decide +kernel
theorem own_d6_0 : decode prog_14_method_3_code 0 = .ok (.aload_n 0, 1) := by decide +kernel
theorem own_d6_1 : decode prog_14_method_3_code 1 = .ok (.invokevirtual 18, 3) := by decide +kernel
theorem own_d6_4 : decode prog_14_method_3_code 4 = .ok (.ifCond .le 36, 3) := by decide +kernel
theorem own_d6_7 : decode prog_14_method_3_code 7 = .ok (.aload_n 1, 1) := by decide +kernel
theorem own_d6_8 : decode prog_14_method_3_code 8 = .ok (.invokevirtual 18, 3) := by decide +kernel
theorem own_d6_11 : decode prog_14_method_3_code 11 = .ok (.ifCond .le 29, 3) := by decide +kernel
theorem own_d6_14 : decode prog_14_method_3_code 14 = .ok (.aload_n 0, 1) := by decide +kernel
theorem own_d6_15 : decode prog_14_method_3_code 15 = .ok (.getfield 9, 3) := by decide +kernel
theorem own_d6_18 : decode prog_14_method_3_code 18 = .ok (.aload_n 1, 1) := by decide +kernel
theorem own_d6_19 : decode prog_14_method_3_code 19 = .ok (.getfield 15, 3) := by decide +kernel
theorem own_d6_22 : decode prog_14_method_3_code 22 = .ok (.if_icmp .ge 18, 3) := by decide +kernel
theorem own_d6_25 : decode prog_14_method_3_code 25 = .ok (.aload_n 1, 1) := by decide +kernel
theorem own_d6_26 : decode prog_14_method_3_code 26 = .ok (.getfield 9, 3) := by decide +kernel
theorem own_d6_29 : decode prog_14_method_3_code 29 = .ok (.aload_n 0, 1) := by decide +kernel
theorem own_d6_30 : decode prog_14_method_3_code 30 = .ok (.getfield 15, 3) := by decide +kernel
theorem own_d6_33 : decode prog_14_method_3_code 33 = .ok (.if_icmp .ge 7, 3) := by decide +kernel
theorem own_d6_36 : decode prog_14_method_3_code 36 = .ok (.iconst 1, 1) := by decide +kernel
theorem own_d6_37 : decode prog_14_method_3_code 37 = .ok (.goto 4, 3) := by decide +kernel
theorem own_d6_40 : decode prog_14_method_3_code 40 = .ok (.iconst 0, 1) := by decide +kernel
theorem own_d6_41 : decode prog_14_method_3_code 41 = .ok (.ireturn, 1) := by decide +kernel
def own_Q6 (Z : State) (xa : Addr) (xb : Addr) (s1 : Int32) (e1 : Int32) (s2 : Int32) (e2 : Int32) (h0 : Heap) (n0 : Nat) (v : Option Value) (h : Heap) (L : List Loc) : Prop := v = some (.int (own_sh s1 e1 s2 e2)) ∧ Fr n0 L ∧ h = h0
theorem own_ef6 (m : MethodId) (xa : Addr) (xb : Addr) : entryFrame m #[(.ref xa), (.ref xb)] 2 = mkF m 0 #[.val (.ref xa), .val (.ref xb)] [] := by first | (simp [entryFrame, mkF, argsToLocals, Value.category]; done) | rfl
set_option maxRecDepth 65536 in
set_option maxHeartbeats 40000000 in
theorem own_rm6 (l : Launch) (Z : State) (a0 : Array Value) (hw : ∀ d ∈ tables_1, d.before a0 Z = true) (ws : List Jvm.Cond) (xa : Addr) (xb : Addr) (s1 : Int32) (e1 : Int32) (s2 : Int32) (e2 : Int32) (h0 : Heap) (n0 : Nat) (Z0 : n0 ≤ h0.size) (E_xa : Exa Z h0 xa "com/example/kura/kura/registry/CountryFormat$Span") (E_xb : Exa Z h0 xb "com/example/kura/kura/registry/CountryFormat$Span") (F_start_xa : Fld Z h0 xa "com/example/kura/kura/registry/CountryFormat$Span" "start" "I" (.int s1)) (F_end_xa : Fld Z h0 xa "com/example/kura/kura/registry/CountryFormat$Span" "end" "I" (.int e1)) (F_start_xb : Fld Z h0 xb "com/example/kura/kura/registry/CountryFormat$Span" "start" "I" (.int s2)) (F_end_xb : Fld Z h0 xb "com/example/kura/kura/registry/CountryFormat$Span" "end" "I" (.int e2)) :
    MetFree l (⟨"com/example/kura/kura/registry/CountryFormat$Span", "sharesAPlaceWith", "(Lcom/example/kura/kura/registry/CountryFormat$Span;)Z"⟩ : MethodName) (head1 (Jvm.Cond.code (⟨"com/example/kura/kura/registry/CountryFormat$Span", "sharesAPlaceWith", "(Lcom/example/kura/kura/registry/CountryFormat$Span;)Z"⟩ : MethodName) prog_14_method_3_code 2 (some .boolean) :: ws) ({ frames := 1, cells := 0, slots := 0, locals := 12 } : Room)) (fun a U => a = #[(.ref xa), (.ref xb)] ∧ Z.Warmed39 U.vm ∧ U.heap = h0) (fun _ _ _ _ _ => True) (fun _ U o U' => ∃ v L, o = .returned v ∧ own_Q6 Z xa xb s1 e1 s2 e2 h0 n0 v U'.heap L ∧ FrameEnd U o U' L ({ frames := 1, cells := 0, slots := 0, locals := 12 } : Room).cells ({ frames := 1, cells := 0, slots := 0, locals := 12 } : Room).slots) := by
  refine MetFree.of_bodySF (plainFor_of_name own_pn1) hisR ?_
  intro p e s m args below meth c s₁ Bd hml0 hP hK
  obtain ⟨rfl, hZ, hh⟩ := hP
  have hx := Bd.exec
  have hby := Bd.bytes
  have hml : c.maxLocals = 2 := hml0
  have hown : s.vm.findClass "com/example/kura/kura/registry/CountryFormat$Span" = some m.cls := findClass_of_methodNamed Bd.named
  have hnm := (name_of_methodNamed Bd.named Bd.method).1
  have X0 : Stand p l e ({ frames := 1, cells := 0, slots := 0, locals := 12 } : Room) s m #[(.ref xa), (.ref xb)] below meth c s₁ [] 0 0 := Stand.of_body Bd
  have e0 : s₁.heap = h0 := by rw [← hh, Bd.state]; rfl
  have N0 := Fr.nil n0
  have pre0 : ∀ t, Steps p.tables e below (s₁.setTop (mkF m 0 #[.val (.ref xa), .val (.ref xb)] [])) t → Steps p.tables e below (s₁.setTop (entryFrame m #[(.ref xa), (.ref xb)] 2)) t := fun t k => castTop (own_ef6 m xa xb) k
  obtain ⟨cq1, kq1, q1a, q1b, q1c⟩ := isOf hZ e0 E_xa
  obtain ⟨_, _, ⟨T1, L1, k1, n1⟩, -, X1, ⟨Lc1, hQ1, l1, y1, z1⟩, st1⟩ := X0.virtualBack hx (y := (⟨"com/example/kura/kura/registry/CountryFormat$Span", "length", "()I"⟩ : MethodName)) (z := (⟨"com/example/kura/kura/registry/CountryFormat$Span", "length", "()I"⟩ : MethodName)) hown (mvT hZ (hw _ (List.mem_of_getElem? (i := 31) rfl))) (mvT hZ (hw _ (List.mem_of_getElem? (i := 32) rfl))) (notFace_of_selects (args := #[]) (mvT hZ (hw _ (List.mem_of_getElem? (i := 34) rfl)))) (mvT hZ (hw _ (List.mem_of_getElem? (i := 34) rfl))) (mvT hZ (hw _ (List.mem_of_getElem? (i := 33) rfl))) (by decide) (backOf (W := 0) (own_rm7 l Z a0 hw [] xa s1 e1 h0 n0 Z0 F_start_xa F_end_xa) hZ (hw _ (List.mem_of_getElem? (i := 35) rfl)) (hw _ (List.mem_of_getElem? (i := 3) rfl)) (by decide) (by decide)) q1a q1c (g := (mkF m 1 #[.val (.ref xa), .val (.ref xb)] [(.ref xa)])) rfl (by rw [hml]; rfl) (Steps.refl _) (argsL := []) (rest := []) (lenOf own_pd1 rfl) rfl (by show 2 * 0 + _ ≤ _; exact Nat.le_of_eq rfl) (hb hby own_d6_1) (fun _ _ => ⟨rfl, e0, (by decide : 0 + 0 ≤ _), (by decide : 0 + 0 ≤ _)⟩)
  dsimp only [Pt.U, Pt.locs, Pt.cells, Pt.slots] at X1 l1 y1 z1 st1 hQ1
  subst l1 y1 z1
  obtain ⟨rfl, N1q, eh1⟩ := hQ1
  have N1 := Fr.app N0 N1q
  have pre2 : ∀ t, Steps p.tables e below (T1.setTop (mkF m 4 #[.val (.ref xa), .val (.ref xb)] [(.int (e1 - s1))])) t → Steps p.tables e below (s₁.setTop (entryFrame m #[(.ref xa), (.ref xb)] 2)) t := by
    intro t k
    refine pre0 _ ?_
    show Steps p.tables e below (s₁.setTop (mkF m 0 #[.val (.ref xa), .val (.ref xb)] [])) _
    refine XS.aloadN X0.here hx rfl (hb hby own_d6_0) rfl rfl ?_
    show Steps p.tables e below (s₁.setTop (mkF m 1 #[.val (.ref xa), .val (.ref xb)] [(.ref xa)])) _
    refine st1.trans ?_
    exact k
  by_cases hc4 : (0 : Int32) < (e1 - s1)
  · obtain ⟨cq3, kq3, q3a, q3b, q3c⟩ := isOf hZ eh1 E_xb
    obtain ⟨_, _, ⟨T3, L3, k3, n3⟩, -, X3, ⟨Lc3, hQ3, l3, y3, z3⟩, st3⟩ := X1.virtualBack hx (y := (⟨"com/example/kura/kura/registry/CountryFormat$Span", "length", "()I"⟩ : MethodName)) (z := (⟨"com/example/kura/kura/registry/CountryFormat$Span", "length", "()I"⟩ : MethodName)) hown (mvT hZ (hw _ (List.mem_of_getElem? (i := 31) rfl))) (mvT hZ (hw _ (List.mem_of_getElem? (i := 32) rfl))) (notFace_of_selects (args := #[]) (mvT hZ (hw _ (List.mem_of_getElem? (i := 34) rfl)))) (mvT hZ (hw _ (List.mem_of_getElem? (i := 34) rfl))) (mvT hZ (hw _ (List.mem_of_getElem? (i := 33) rfl))) (by decide) (backOf (W := 0) (own_rm7 l Z a0 hw [] xb s2 e2 h0 n0 Z0 F_start_xb F_end_xb) hZ (hw _ (List.mem_of_getElem? (i := 35) rfl)) (hw _ (List.mem_of_getElem? (i := 3) rfl)) (by decide) (by decide)) q3a q3c (g := (mkF m 8 #[.val (.ref xa), .val (.ref xb)] [(.ref xb)])) rfl (by rw [hml]; rfl) (Steps.refl _) (argsL := []) (rest := []) (lenOf own_pd1 rfl) rfl (by show 2 * 0 + _ ≤ _; exact Nat.le_of_eq rfl) (hb hby own_d6_8) (fun _ _ => ⟨rfl, eh1, (by decide : 0 + 0 ≤ _), (by decide : 0 + 0 ≤ _)⟩)
    dsimp only [Pt.U, Pt.locs, Pt.cells, Pt.slots] at X3 l3 y3 z3 st3 hQ3
    subst l3 y3 z3
    obtain ⟨rfl, N3q, eh3⟩ := hQ3
    have N3 := Fr.app N1 N3q
    have pre4 : ∀ t, Steps p.tables e below (T3.setTop (mkF m 11 #[.val (.ref xa), .val (.ref xb)] [(.int (e2 - s2))])) t → Steps p.tables e below (s₁.setTop (entryFrame m #[(.ref xa), (.ref xb)] 2)) t := by
      intro t k
      refine pre2 _ ?_
      show Steps p.tables e below (T1.setTop (mkF m 4 #[.val (.ref xa), .val (.ref xb)] [(.int (e1 - s1))])) _
      refine XS.ifNo X1.here hx rfl (hb hby own_d6_4) rfl ((if0 _ _).trans (tlt hc4).2.2.2) ?_
      show Steps p.tables e below (T1.setTop (mkF m 7 #[.val (.ref xa), .val (.ref xb)] [])) _
      refine XS.aloadN X1.here hx rfl (hb hby own_d6_7) rfl rfl ?_
      show Steps p.tables e below (T1.setTop (mkF m 8 #[.val (.ref xa), .val (.ref xb)] [(.ref xb)])) _
      refine st3.trans ?_
      exact k
    by_cases hc11 : (0 : Int32) < (e2 - s2)
    · obtain ⟨T5, X5, e5, st5⟩ := getF X3 hx hZ hown (host := "") (Or.inl (hw _ (List.mem_of_getElem? (i := 15) rfl))) Via.refl eh3 F_start_xa (g := (mkF m 15 #[.val (.ref xa), .val (.ref xb)] [(.ref xa)])) rfl rfl (hb hby own_d6_15)
      obtain ⟨T6, X6, e6, st6⟩ := getF X5 hx hZ hown (host := "") (Or.inl (hw _ (List.mem_of_getElem? (i := 17) rfl))) Via.refl e5 F_end_xb (g := (mkF m 19 #[.val (.ref xa), .val (.ref xb)] [(.ref xb), (.int s1)])) rfl rfl (hb hby own_d6_19)
      have pre7 : ∀ t, Steps p.tables e below (T6.setTop (mkF m 22 #[.val (.ref xa), .val (.ref xb)] [(.int e2), (.int s1)])) t → Steps p.tables e below (s₁.setTop (entryFrame m #[(.ref xa), (.ref xb)] 2)) t := by
        intro t k
        refine pre4 _ ?_
        show Steps p.tables e below (T3.setTop (mkF m 11 #[.val (.ref xa), .val (.ref xb)] [(.int (e2 - s2))])) _
        refine XS.ifNo X3.here hx rfl (hb hby own_d6_11) rfl ((if0 _ _).trans (tlt hc11).2.2.2) ?_
        show Steps p.tables e below (T3.setTop (mkF m 14 #[.val (.ref xa), .val (.ref xb)] [])) _
        refine XS.aloadN X3.here hx rfl (hb hby own_d6_14) rfl rfl ?_
        show Steps p.tables e below (T3.setTop (mkF m 15 #[.val (.ref xa), .val (.ref xb)] [(.ref xa)])) _
        refine st5 _ ?_
        show Steps p.tables e below (T5.setTop (mkF m 18 #[.val (.ref xa), .val (.ref xb)] [(.int s1)])) _
        refine XS.aloadN X5.here hx rfl (hb hby own_d6_18) rfl rfl ?_
        show Steps p.tables e below (T5.setTop (mkF m 19 #[.val (.ref xa), .val (.ref xb)] [(.ref xb), (.int s1)])) _
        refine st6 _ ?_
        exact k
      by_cases hc22 : s1 < e2
      · obtain ⟨T8, X8, e8, st8⟩ := getF X6 hx hZ hown (host := "") (Or.inl (hw _ (List.mem_of_getElem? (i := 15) rfl))) Via.refl e6 F_start_xb (g := (mkF m 26 #[.val (.ref xa), .val (.ref xb)] [(.ref xb)])) rfl rfl (hb hby own_d6_26)
        obtain ⟨T9, X9, e9, st9⟩ := getF X8 hx hZ hown (host := "") (Or.inl (hw _ (List.mem_of_getElem? (i := 17) rfl))) Via.refl e8 F_end_xa (g := (mkF m 30 #[.val (.ref xa), .val (.ref xb)] [(.ref xa), (.int s2)])) rfl rfl (hb hby own_d6_30)
        have pre10 : ∀ t, Steps p.tables e below (T9.setTop (mkF m 33 #[.val (.ref xa), .val (.ref xb)] [(.int e1), (.int s2)])) t → Steps p.tables e below (s₁.setTop (entryFrame m #[(.ref xa), (.ref xb)] 2)) t := by
          intro t k
          refine pre7 _ ?_
          show Steps p.tables e below (T6.setTop (mkF m 22 #[.val (.ref xa), .val (.ref xb)] [(.int e2), (.int s1)])) _
          refine XS.icmpNo X6.here hx rfl (hb hby own_d6_22) rfl (tlt hc22).2.1 ?_
          show Steps p.tables e below (T6.setTop (mkF m 25 #[.val (.ref xa), .val (.ref xb)] [])) _
          refine XS.aloadN X6.here hx rfl (hb hby own_d6_25) rfl rfl ?_
          show Steps p.tables e below (T6.setTop (mkF m 26 #[.val (.ref xa), .val (.ref xb)] [(.ref xb)])) _
          refine st8 _ ?_
          show Steps p.tables e below (T8.setTop (mkF m 29 #[.val (.ref xa), .val (.ref xb)] [(.int s2)])) _
          refine XS.aloadN X8.here hx rfl (hb hby own_d6_29) rfl rfl ?_
          show Steps p.tables e below (T8.setTop (mkF m 30 #[.val (.ref xa), .val (.ref xb)] [(.ref xa), (.int s2)])) _
          refine st9 _ ?_
          exact k
        by_cases hc33 : s2 < e1
        · obtain ⟨fs, hr, hrun, hended, hW, hsame⟩ := X9.leave (v := some (.int (1 : Int32))) (fun h => by rw [Bd.returns] at h; cases h)
          have ev11 : (own_sh s1 e1 s2 e2) = (1 : Int32) := by
            simp [own_sh, hc4, hc11, hc22, hc33]
          refine ⟨_, _, pre10 _ ?_, hrun, hended, _, _, rfl, ?_, ⟨_, rfl⟩, hW, hsame.mono (by decide) (by decide)⟩
          · show Steps p.tables e below (T9.setTop (mkF m 33 #[.val (.ref xa), .val (.ref xb)] [(.int e1), (.int s2)])) _
            refine XS.icmpNo X9.here hx rfl (hb hby own_d6_33) rfl (tlt hc33).2.1 ?_
            show Steps p.tables e below (T9.setTop (mkF m 36 #[.val (.ref xa), .val (.ref xb)] [])) _
            refine XS.iconst X9.here hx rfl (hb hby own_d6_36) ?_
            show Steps p.tables e below (T9.setTop (mkF m 37 #[.val (.ref xa), .val (.ref xb)] [(.int (1 : Int32))])) _
            refine XS.goto X9.here hx rfl (pc0 := 37) (pc' := 41) rfl (hb hby own_d6_37) (by decide) (by decide) ?_
            show Steps p.tables e below (T9.setTop (mkF m 41 #[.val (.ref xa), .val (.ref xb)] [(.int (1 : Int32))])) _
            exact retN X9 hx (t := .boolean) Bd.returns (by simp) (hb hby own_d6_41) hr
          · show own_Q6 Z xa xb s1 e1 s2 e2 h0 n0 _ T9.heap _
            rw [e9]
            exact ⟨(by rw [ev11]), N3, rfl⟩
        · obtain ⟨fs, hr, hrun, hended, hW, hsame⟩ := X9.leave (v := some (.int (0 : Int32))) (fun h => by rw [Bd.returns] at h; cases h)
          have ev12 : (own_sh s1 e1 s2 e2) = (0 : Int32) := by
            simp [own_sh, hc4, hc11, hc22, hc33]
          refine ⟨_, _, pre10 _ ?_, hrun, hended, _, _, rfl, ?_, ⟨_, rfl⟩, hW, hsame.mono (by decide) (by decide)⟩
          · show Steps p.tables e below (T9.setTop (mkF m 33 #[.val (.ref xa), .val (.ref xb)] [(.int e1), (.int s2)])) _
            refine XS.icmpYes X9.here hx rfl (pc0 := 33) (pc' := 40) rfl (hb hby own_d6_33) rfl (flt hc33).2.1 (by decide) (by decide) ?_
            show Steps p.tables e below (T9.setTop (mkF m 40 #[.val (.ref xa), .val (.ref xb)] [])) _
            refine XS.iconst X9.here hx rfl (hb hby own_d6_40) ?_
            show Steps p.tables e below (T9.setTop (mkF m 41 #[.val (.ref xa), .val (.ref xb)] [(.int (0 : Int32))])) _
            exact retN X9 hx (t := .boolean) Bd.returns (by simp) (hb hby own_d6_41) hr
          · show own_Q6 Z xa xb s1 e1 s2 e2 h0 n0 _ T9.heap _
            rw [e9]
            exact ⟨(by rw [ev12]), N3, rfl⟩
      · obtain ⟨fs, hr, hrun, hended, hW, hsame⟩ := X6.leave (v := some (.int (0 : Int32))) (fun h => by rw [Bd.returns] at h; cases h)
        have ev13 : (own_sh s1 e1 s2 e2) = (0 : Int32) := by
          simp [own_sh, hc4, hc11, hc22]
        refine ⟨_, _, pre7 _ ?_, hrun, hended, _, _, rfl, ?_, ⟨_, rfl⟩, hW, hsame.mono (by decide) (by decide)⟩
        · show Steps p.tables e below (T6.setTop (mkF m 22 #[.val (.ref xa), .val (.ref xb)] [(.int e2), (.int s1)])) _
          refine XS.icmpYes X6.here hx rfl (pc0 := 22) (pc' := 40) rfl (hb hby own_d6_22) rfl (flt hc22).2.1 (by decide) (by decide) ?_
          show Steps p.tables e below (T6.setTop (mkF m 40 #[.val (.ref xa), .val (.ref xb)] [])) _
          refine XS.iconst X6.here hx rfl (hb hby own_d6_40) ?_
          show Steps p.tables e below (T6.setTop (mkF m 41 #[.val (.ref xa), .val (.ref xb)] [(.int (0 : Int32))])) _
          exact retN X6 hx (t := .boolean) Bd.returns (by simp) (hb hby own_d6_41) hr
        · show own_Q6 Z xa xb s1 e1 s2 e2 h0 n0 _ T6.heap _
          rw [e6]
          exact ⟨(by rw [ev13]), N3, rfl⟩
    · obtain ⟨fs, hr, hrun, hended, hW, hsame⟩ := X3.leave (v := some (.int (0 : Int32))) (fun h => by rw [Bd.returns] at h; cases h)
      have ev14 : (own_sh s1 e1 s2 e2) = (0 : Int32) := by
        simp [own_sh, hc4, hc11]
      refine ⟨_, _, pre4 _ ?_, hrun, hended, _, _, rfl, ?_, ⟨_, rfl⟩, hW, hsame.mono (by decide) (by decide)⟩
      · show Steps p.tables e below (T3.setTop (mkF m 11 #[.val (.ref xa), .val (.ref xb)] [(.int (e2 - s2))])) _
        refine XS.ifYes X3.here hx rfl (pc0 := 11) (pc' := 40) rfl (hb hby own_d6_11) rfl ((if0 _ _).trans (flt hc11).2.2.2) (by decide) (by decide) ?_
        show Steps p.tables e below (T3.setTop (mkF m 40 #[.val (.ref xa), .val (.ref xb)] [])) _
        refine XS.iconst X3.here hx rfl (hb hby own_d6_40) ?_
        show Steps p.tables e below (T3.setTop (mkF m 41 #[.val (.ref xa), .val (.ref xb)] [(.int (0 : Int32))])) _
        exact retN X3 hx (t := .boolean) Bd.returns (by simp) (hb hby own_d6_41) hr
      · show own_Q6 Z xa xb s1 e1 s2 e2 h0 n0 _ T3.heap _
        rw [eh3]
        exact ⟨(by rw [ev14]), N3, rfl⟩
  · obtain ⟨fs, hr, hrun, hended, hW, hsame⟩ := X1.leave (v := some (.int (0 : Int32))) (fun h => by rw [Bd.returns] at h; cases h)
    have ev15 : (own_sh s1 e1 s2 e2) = (0 : Int32) := by
      simp [own_sh, hc4]
    refine ⟨_, _, pre2 _ ?_, hrun, hended, _, _, rfl, ?_, ⟨_, rfl⟩, hW, hsame.mono (by decide) (by decide)⟩
    · show Steps p.tables e below (T1.setTop (mkF m 4 #[.val (.ref xa), .val (.ref xb)] [(.int (e1 - s1))])) _
      refine XS.ifYes X1.here hx rfl (pc0 := 4) (pc' := 40) rfl (hb hby own_d6_4) rfl ((if0 _ _).trans (flt hc4).2.2.2) (by decide) (by decide) ?_
      show Steps p.tables e below (T1.setTop (mkF m 40 #[.val (.ref xa), .val (.ref xb)] [])) _
      refine XS.iconst X1.here hx rfl (hb hby own_d6_40) ?_
      show Steps p.tables e below (T1.setTop (mkF m 41 #[.val (.ref xa), .val (.ref xb)] [(.int (0 : Int32))])) _
      exact retN X1 hx (t := .boolean) Bd.returns (by simp) (hb hby own_d6_41) hr
    · show own_Q6 Z xa xb s1 e1 s2 e2 h0 n0 _ T1.heap _
      rw [eh1]
      exact ⟨(by rw [ev15]), N1, rfl⟩
theorem own_pn2 : plainName "com/example/kura/kura/registry/SpanSharesAPlaceWithPinLaw" = true := by first | (simp [plainName, overriddenIn]; done) | decide +kernel
theorem own_pd2 : parseMethodDescriptor "(II)V" = some ⟨[.int, .int], none⟩ := by decide +kernel
theorem own_pd3 : parseMethodDescriptor "(II)I" = some ⟨[.int, .int], some .int⟩ := by decide +kernel
theorem own_pd4 : parseMethodDescriptor "(Lcom/example/kura/kura/registry/CountryFormat$Span;)Z" = some ⟨[(.object "com/example/kura/kura/registry/CountryFormat$Span")], some .boolean⟩ := by decide +kernel
def own_Q0 (Z : State) (xa : Int32) (xb : Int32) (xc : Int32) (xd : Int32) (h0 : Heap) (n0 : Nat) (v : Option Value) (h : Heap) (L : List Loc) : Prop := v = some (.int (1 : Int32)) ∧ Fr n0 L
theorem own_ef0 (m : MethodId) (xa : Int32) (xb : Int32) (xc : Int32) (xd : Int32) : entryFrame m #[(.int xa), (.int xb), (.int xc), (.int xd)] maxLocals = mkF m 0 #[.val (.int xa), .val (.int xb), .val (.int xc), .val (.int xd), .unset, .unset, .unset, .unset, .unset, .unset, .unset, .unset, .unset] [] := by first | (simp [entryFrame, mkF, argsToLocals, Value.category, maxLocals]; done) | rfl
set_option maxRecDepth 65536 in
set_option maxHeartbeats 40000000 in
theorem own_rm0 (l : Launch) (Z : State) (a0 : Array Value) (hw : ∀ d ∈ tables_1, d.before a0 Z = true) (ws : List Jvm.Cond) (xa : Int32) (xb : Int32) (xc : Int32) (xd : Int32) (h0 : Heap) (n0 : Nat) (Z0 : n0 ≤ h0.size)  :
    MetFree l x (head1 (Jvm.Cond.code x code maxLocals ret :: ws) room_1) (fun a U => a = #[(.int xa), (.int xb), (.int xc), (.int xd)] ∧ Z.Warmed39 U.vm ∧ U.heap = h0) (fun _ _ _ _ _ => True) (fun _ U o U' => ∃ v L, o = .returned v ∧ own_Q0 Z xa xb xc xd h0 n0 v U'.heap L ∧ FrameEnd U o U' L room_1.cells room_1.slots) := by
  refine MetFree.of_bodySF (plainFor_of_name own_pn2) hisR ?_
  intro p e s m args below meth c s₁ Bd hml0 hP hK
  obtain ⟨rfl, hZ, hh⟩ := hP
  have hx := Bd.exec
  have hby := Bd.bytes
  have hml : c.maxLocals = 13 := hml0
  have hown : s.vm.findClass "com/example/kura/kura/registry/SpanSharesAPlaceWithPinLaw" = some m.cls := findClass_of_methodNamed Bd.named
  have hnm := (name_of_methodNamed Bd.named Bd.method).1
  have X0 : Stand p l e room_1 s m #[(.int xa), (.int xb), (.int xc), (.int xd)] below meth c s₁ [] 0 0 := Stand.of_body Bd
  have e0 : s₁.heap = h0 := by rw [← hh, Bd.state]; rfl
  have N0 := Fr.nil n0
  have pre0 : ∀ t, Steps p.tables e below (s₁.setTop (mkF m 0 #[.val (.int xa), .val (.int xb), .val (.int xc), .val (.int xd), .unset, .unset, .unset, .unset, .unset, .unset, .unset, .unset, .unset] [])) t → Steps p.tables e below (s₁.setTop (entryFrame m #[(.int xa), (.int xb), (.int xc), (.int xd)] maxLocals)) t := fun t k => castTop (own_ef0 m xa xb xc xd) k
  have K0 : Keep h0 h0 [] := Keep.refl _ _
  obtain ⟨v4, hv4⟩ : ∃ w : Int32, w = (xa &&& (2147483647 : Int32)) := ⟨_, rfl⟩
  have pre1 : ∀ t, Steps p.tables e below (s₁.setTop (mkF m 6 #[.val (.int xa), .val (.int xb), .val (.int xc), .val (.int xd), .val (.int v4), .unset, .unset, .unset, .unset, .unset, .unset, .unset, .unset] [])) t → Steps p.tables e below (s₁.setTop (entryFrame m #[(.int xa), (.int xb), (.int xc), (.int xd)] maxLocals)) t := by
    intro t k
    rw [hv4] at k
    refine pre0 _ ?_
    show Steps p.tables e below (s₁.setTop (mkF m 0 #[.val (.int xa), .val (.int xb), .val (.int xc), .val (.int xd), .unset, .unset, .unset, .unset, .unset, .unset, .unset, .unset, .unset] [])) _
    refine XS.iloadN X0.here hx rfl (hb hby at_0) rfl ?_
    show Steps p.tables e below (s₁.setTop (mkF m 1 #[.val (.int xa), .val (.int xb), .val (.int xc), .val (.int xd), .unset, .unset, .unset, .unset, .unset, .unset, .unset, .unset, .unset] [(.int xa)])) _
    refine X0.ldcInt hx hown (mvT hZ (hw _ (List.mem_of_getElem? (i := 0) rfl))) (g := (mkF m 1 #[.val (.int xa), .val (.int xb), .val (.int xc), .val (.int xd), .unset, .unset, .unset, .unset, .unset, .unset, .unset, .unset, .unset] [(.int xa)])) rfl (hb hby at_1) _ ?_
    show Steps p.tables e below (s₁.setTop (mkF m 3 #[.val (.int xa), .val (.int xb), .val (.int xc), .val (.int xd), .unset, .unset, .unset, .unset, .unset, .unset, .unset, .unset, .unset] [(.int (2147483647 : Int32)), (.int xa)])) _
    refine XS.iand X0.here hx rfl (hb hby at_3) rfl ?_
    show Steps p.tables e below (s₁.setTop (mkF m 4 #[.val (.int xa), .val (.int xb), .val (.int xc), .val (.int xd), .unset, .unset, .unset, .unset, .unset, .unset, .unset, .unset, .unset] [(.int (xa &&& (2147483647 : Int32)))])) _
    refine XS.istore X0.here hx rfl (hb hby at_4) rfl (l' := #[.val (.int xa), .val (.int xb), .val (.int xc), .val (.int xd), .val (.int (xa &&& (2147483647 : Int32))), .unset, .unset, .unset, .unset, .unset, .unset, .unset, .unset]) rfl ?_
    exact k
  obtain ⟨v10, hv10⟩ : ∃ w : Int32, w = (xb &&& (2147483647 : Int32)) := ⟨_, rfl⟩
  have pre2 : ∀ t, Steps p.tables e below (s₁.setTop (mkF m 12 #[.val (.int xa), .val (.int xb), .val (.int xc), .val (.int xd), .val (.int v4), .val (.int v10), .unset, .unset, .unset, .unset, .unset, .unset, .unset] [])) t → Steps p.tables e below (s₁.setTop (entryFrame m #[(.int xa), (.int xb), (.int xc), (.int xd)] maxLocals)) t := by
    intro t k
    rw [hv10] at k
    refine pre1 _ ?_
    show Steps p.tables e below (s₁.setTop (mkF m 6 #[.val (.int xa), .val (.int xb), .val (.int xc), .val (.int xd), .val (.int v4), .unset, .unset, .unset, .unset, .unset, .unset, .unset, .unset] [])) _
    refine XS.iloadN X0.here hx rfl (hb hby at_6) rfl ?_
    show Steps p.tables e below (s₁.setTop (mkF m 7 #[.val (.int xa), .val (.int xb), .val (.int xc), .val (.int xd), .val (.int v4), .unset, .unset, .unset, .unset, .unset, .unset, .unset, .unset] [(.int xb)])) _
    refine X0.ldcInt hx hown (mvT hZ (hw _ (List.mem_of_getElem? (i := 0) rfl))) (g := (mkF m 7 #[.val (.int xa), .val (.int xb), .val (.int xc), .val (.int xd), .val (.int v4), .unset, .unset, .unset, .unset, .unset, .unset, .unset, .unset] [(.int xb)])) rfl (hb hby at_7) _ ?_
    show Steps p.tables e below (s₁.setTop (mkF m 9 #[.val (.int xa), .val (.int xb), .val (.int xc), .val (.int xd), .val (.int v4), .unset, .unset, .unset, .unset, .unset, .unset, .unset, .unset] [(.int (2147483647 : Int32)), (.int xb)])) _
    refine XS.iand X0.here hx rfl (hb hby at_9) rfl ?_
    show Steps p.tables e below (s₁.setTop (mkF m 10 #[.val (.int xa), .val (.int xb), .val (.int xc), .val (.int xd), .val (.int v4), .unset, .unset, .unset, .unset, .unset, .unset, .unset, .unset] [(.int (xb &&& (2147483647 : Int32)))])) _
    refine XS.istore X0.here hx rfl (hb hby at_10) rfl (l' := #[.val (.int xa), .val (.int xb), .val (.int xc), .val (.int xd), .val (.int v4), .val (.int (xb &&& (2147483647 : Int32))), .unset, .unset, .unset, .unset, .unset, .unset, .unset]) rfl ?_
    exact k
  obtain ⟨v16, hv16⟩ : ∃ w : Int32, w = (xc &&& (2147483647 : Int32)) := ⟨_, rfl⟩
  have pre3 : ∀ t, Steps p.tables e below (s₁.setTop (mkF m 18 #[.val (.int xa), .val (.int xb), .val (.int xc), .val (.int xd), .val (.int v4), .val (.int v10), .val (.int v16), .unset, .unset, .unset, .unset, .unset, .unset] [])) t → Steps p.tables e below (s₁.setTop (entryFrame m #[(.int xa), (.int xb), (.int xc), (.int xd)] maxLocals)) t := by
    intro t k
    rw [hv16] at k
    refine pre2 _ ?_
    show Steps p.tables e below (s₁.setTop (mkF m 12 #[.val (.int xa), .val (.int xb), .val (.int xc), .val (.int xd), .val (.int v4), .val (.int v10), .unset, .unset, .unset, .unset, .unset, .unset, .unset] [])) _
    refine XS.iloadN X0.here hx rfl (hb hby at_12) rfl ?_
    show Steps p.tables e below (s₁.setTop (mkF m 13 #[.val (.int xa), .val (.int xb), .val (.int xc), .val (.int xd), .val (.int v4), .val (.int v10), .unset, .unset, .unset, .unset, .unset, .unset, .unset] [(.int xc)])) _
    refine X0.ldcInt hx hown (mvT hZ (hw _ (List.mem_of_getElem? (i := 0) rfl))) (g := (mkF m 13 #[.val (.int xa), .val (.int xb), .val (.int xc), .val (.int xd), .val (.int v4), .val (.int v10), .unset, .unset, .unset, .unset, .unset, .unset, .unset] [(.int xc)])) rfl (hb hby at_13) _ ?_
    show Steps p.tables e below (s₁.setTop (mkF m 15 #[.val (.int xa), .val (.int xb), .val (.int xc), .val (.int xd), .val (.int v4), .val (.int v10), .unset, .unset, .unset, .unset, .unset, .unset, .unset] [(.int (2147483647 : Int32)), (.int xc)])) _
    refine XS.iand X0.here hx rfl (hb hby at_15) rfl ?_
    show Steps p.tables e below (s₁.setTop (mkF m 16 #[.val (.int xa), .val (.int xb), .val (.int xc), .val (.int xd), .val (.int v4), .val (.int v10), .unset, .unset, .unset, .unset, .unset, .unset, .unset] [(.int (xc &&& (2147483647 : Int32)))])) _
    refine XS.istore X0.here hx rfl (hb hby at_16) rfl (l' := #[.val (.int xa), .val (.int xb), .val (.int xc), .val (.int xd), .val (.int v4), .val (.int v10), .val (.int (xc &&& (2147483647 : Int32))), .unset, .unset, .unset, .unset, .unset, .unset]) rfl ?_
    exact k
  obtain ⟨v22, hv22⟩ : ∃ w : Int32, w = (xd &&& (2147483647 : Int32)) := ⟨_, rfl⟩
  have pre4 : ∀ t, Steps p.tables e below (s₁.setTop (mkF m 24 #[.val (.int xa), .val (.int xb), .val (.int xc), .val (.int xd), .val (.int v4), .val (.int v10), .val (.int v16), .val (.int v22), .unset, .unset, .unset, .unset, .unset] [])) t → Steps p.tables e below (s₁.setTop (entryFrame m #[(.int xa), (.int xb), (.int xc), (.int xd)] maxLocals)) t := by
    intro t k
    rw [hv22] at k
    refine pre3 _ ?_
    show Steps p.tables e below (s₁.setTop (mkF m 18 #[.val (.int xa), .val (.int xb), .val (.int xc), .val (.int xd), .val (.int v4), .val (.int v10), .val (.int v16), .unset, .unset, .unset, .unset, .unset, .unset] [])) _
    refine XS.iloadN X0.here hx rfl (hb hby at_18) rfl ?_
    show Steps p.tables e below (s₁.setTop (mkF m 19 #[.val (.int xa), .val (.int xb), .val (.int xc), .val (.int xd), .val (.int v4), .val (.int v10), .val (.int v16), .unset, .unset, .unset, .unset, .unset, .unset] [(.int xd)])) _
    refine X0.ldcInt hx hown (mvT hZ (hw _ (List.mem_of_getElem? (i := 0) rfl))) (g := (mkF m 19 #[.val (.int xa), .val (.int xb), .val (.int xc), .val (.int xd), .val (.int v4), .val (.int v10), .val (.int v16), .unset, .unset, .unset, .unset, .unset, .unset] [(.int xd)])) rfl (hb hby at_19) _ ?_
    show Steps p.tables e below (s₁.setTop (mkF m 21 #[.val (.int xa), .val (.int xb), .val (.int xc), .val (.int xd), .val (.int v4), .val (.int v10), .val (.int v16), .unset, .unset, .unset, .unset, .unset, .unset] [(.int (2147483647 : Int32)), (.int xd)])) _
    refine XS.iand X0.here hx rfl (hb hby at_21) rfl ?_
    show Steps p.tables e below (s₁.setTop (mkF m 22 #[.val (.int xa), .val (.int xb), .val (.int xc), .val (.int xd), .val (.int v4), .val (.int v10), .val (.int v16), .unset, .unset, .unset, .unset, .unset, .unset] [(.int (xd &&& (2147483647 : Int32)))])) _
    refine XS.istore X0.here hx rfl (hb hby at_22) rfl (l' := #[.val (.int xa), .val (.int xb), .val (.int xc), .val (.int xd), .val (.int v4), .val (.int v10), .val (.int v16), .val (.int (xd &&& (2147483647 : Int32))), .unset, .unset, .unset, .unset, .unset]) rfl ?_
    exact k
  have p1 : 0 ≤ v4.toInt := by rw [hv4]; exact own_nn _
  have p2 : 0 ≤ v10.toInt := by rw [hv10]; exact own_nn _
  have p3 : 0 ≤ v16.toInt := by rw [hv16]; exact own_nn _
  have p4 : 0 ≤ v22.toInt := by rw [hv22]; exact own_nn _
  obtain ⟨T5, h5, X5, e5, E5, A5, D5, -, st5⟩ := newO X0 hx hZ hown (hw _ (List.mem_of_getElem? (i := 1) rfl)) (hw _ (List.mem_of_getElem? (i := 2) rfl)) (hw _ (List.mem_of_getElem? (i := 3) rfl)) e0 (g := (mkF m 24 #[.val (.int xa), .val (.int xb), .val (.int xc), .val (.int xd), .val (.int v4), .val (.int v10), .val (.int v16), .val (.int v22), .unset, .unset, .unset, .unset, .unset] [])) rfl (hb hby at_24) (by decide) (by decide)
  obtain ⟨b5, g5⟩ : ∃ z, z = h0.size := ⟨_, rfl⟩
  rw [← g5] at A5 D5 st5
  have g_b5 : n0 ≤ b5 := Nat.le_trans Z0 (Nat.le_of_eq g5.symm)
  have sz_b5 : h0.size ≤ b5 := Nat.le_trans K0.1 (Nat.le_of_eq g5.symm)
  have K5 : Keep h0 h5 [] := K0.ext E5
  have Z5 : n0 ≤ h5.size := Nat.le_trans Z0 E5.1
  have F6 : Fld Z h5 b5 "com/example/kura/kura/registry/CountryFormat$Span" "start" "I" (.int (0 : Int32)) := D5 (Or.inr (hw _ (List.mem_of_getElem? (i := 16) rfl))) (ty := .int) (by decide)
  have F7 : Fld Z h5 b5 "com/example/kura/kura/registry/CountryFormat$Span" "end" "I" (.int (0 : Int32)) := D5 (Or.inr (hw _ (List.mem_of_getElem? (i := 18) rfl))) (ty := .int) (by decide)
  obtain ⟨_, _, ⟨T8, L8, k8, n8⟩, -, X8, ⟨Lc8, hQ8, l8, y8, z8⟩, st8⟩ := X5.specialBack hx (y := (⟨"com/example/kura/kura/registry/CountryFormat$Span", "<init>", "(II)V"⟩ : MethodName)) rfl hown (mvT hZ (hw _ (List.mem_of_getElem? (i := 4) rfl))) (mvT hZ (hw _ (List.mem_of_getElem? (i := 5) rfl))) (mvT hZ (hw _ (List.mem_of_getElem? (i := 6) rfl))) (by decide) (backOf (W := 1) (own_rm1 l Z a0 hw [] b5 v4 v10 h5 n0 Z5 A5 F6 F7 g_b5) hZ (hw _ (List.mem_of_getElem? (i := 6) rfl)) (hw _ (List.mem_of_getElem? (i := 3) rfl)) (by decide) (by decide)) (g := (mkF m 32 #[.val (.int xa), .val (.int xb), .val (.int xc), .val (.int xd), .val (.int v4), .val (.int v10), .val (.int v16), .val (.int v22), .unset, .unset, .unset, .unset, .unset] [(.int v10), (.int v4), (.ref b5), (.ref b5)])) rfl (by rw [hml]; rfl) (Steps.refl _) (a := b5) (argsL := [(.int v4), (.int v10)]) (rest := [(.ref b5)]) (lenOf own_pd2 rfl) rfl (by show 2 * 0 + _ ≤ _; exact Nat.le_of_eq rfl) (hb hby at_32) (fun _ _ => ⟨rfl, e5, (by decide : 1 + 0 ≤ _), (by decide : 2 + 0 ≤ _)⟩)
  dsimp only [Pt.U, Pt.locs, Pt.cells, Pt.slots] at X8 l8 y8 z8 st8 hQ8
  subst l8 y8 z8
  obtain ⟨rfl, N8q, K8q, F9, F10, F11⟩ := hQ8
  have K8 := K8q
  have KK8 : Keep h0 T8.heap [] := K5.trans K8 (allS (Or.inr sz_b5) all0)
  have F12 : Exa Z T8.heap b5 "com/example/kura/kura/registry/CountryFormat$Span" := A5.keep K8
  have Z8 : n0 ≤ T8.heap.size := Nat.le_trans Z5 K8.1
  have N8 := Fr.app N0 N8q
  obtain ⟨T13, h13, X13, e13, E13, A13, D13, -, st13⟩ := newO X8 hx hZ hown (hw _ (List.mem_of_getElem? (i := 1) rfl)) (hw _ (List.mem_of_getElem? (i := 2) rfl)) (hw _ (List.mem_of_getElem? (i := 3) rfl)) rfl (g := (mkF m 37 #[.val (.int xa), .val (.int xb), .val (.int xc), .val (.int xd), .val (.int v4), .val (.int v10), .val (.int v16), .val (.int v22), .val (.ref b5), .unset, .unset, .unset, .unset] [])) rfl (hb hby at_37) (by decide) (by decide)
  obtain ⟨b13, g13⟩ : ∃ z, z = T8.heap.size := ⟨_, rfl⟩
  rw [← g13] at A13 D13 st13
  have ne_b5_b13 : b5 ≠ b13 := Nat.ne_of_lt (Nat.lt_of_lt_of_le F11.lt (Nat.le_of_eq g13.symm))
  have g_b13 : n0 ≤ b13 := Nat.le_trans Z8 (Nat.le_of_eq g13.symm)
  have sz_b13 : h0.size ≤ b13 := Nat.le_trans KK8.1 (Nat.le_of_eq g13.symm)
  have K13 : Keep h0 h13 [] := KK8.ext E13
  have F14 : Exa Z h13 b5 "com/example/kura/kura/registry/CountryFormat$Span" := F9.ext E13
  have F15 : Fld Z h13 b5 "com/example/kura/kura/registry/CountryFormat$Span" "start" "I" (.int v4) := F10.ext E13
  have F16 : Fld Z h13 b5 "com/example/kura/kura/registry/CountryFormat$Span" "end" "I" (.int v10) := F11.ext E13
  have Z13 : n0 ≤ h13.size := Nat.le_trans Z8 E13.1
  have F17 : Fld Z h13 b13 "com/example/kura/kura/registry/CountryFormat$Span" "start" "I" (.int (0 : Int32)) := D13 (Or.inr (hw _ (List.mem_of_getElem? (i := 16) rfl))) (ty := .int) (by decide)
  have F18 : Fld Z h13 b13 "com/example/kura/kura/registry/CountryFormat$Span" "end" "I" (.int (0 : Int32)) := D13 (Or.inr (hw _ (List.mem_of_getElem? (i := 18) rfl))) (ty := .int) (by decide)
  obtain ⟨_, _, ⟨T19, L19, k19, n19⟩, -, X19, ⟨Lc19, hQ19, l19, y19, z19⟩, st19⟩ := X13.specialBack hx (y := (⟨"com/example/kura/kura/registry/CountryFormat$Span", "<init>", "(II)V"⟩ : MethodName)) rfl hown (mvT hZ (hw _ (List.mem_of_getElem? (i := 4) rfl))) (mvT hZ (hw _ (List.mem_of_getElem? (i := 5) rfl))) (mvT hZ (hw _ (List.mem_of_getElem? (i := 6) rfl))) (by decide) (backOf (W := 1) (own_rm1 l Z a0 hw [] b13 v16 v22 h13 n0 Z13 A13 F17 F18 g_b13) hZ (hw _ (List.mem_of_getElem? (i := 6) rfl)) (hw _ (List.mem_of_getElem? (i := 3) rfl)) (by decide) (by decide)) (g := (mkF m 45 #[.val (.int xa), .val (.int xb), .val (.int xc), .val (.int xd), .val (.int v4), .val (.int v10), .val (.int v16), .val (.int v22), .val (.ref b5), .unset, .unset, .unset, .unset] [(.int v22), (.int v16), (.ref b13), (.ref b13)])) rfl (by rw [hml]; rfl) (Steps.refl _) (a := b13) (argsL := [(.int v16), (.int v22)]) (rest := [(.ref b13)]) (lenOf own_pd2 rfl) rfl (by show 2 * 0 + _ ≤ _; exact Nat.le_of_eq rfl) (hb hby at_45) (fun _ _ => ⟨rfl, e13, (by decide : 2 + 0 ≤ _), (by decide : 4 + 0 ≤ _)⟩)
  dsimp only [Pt.U, Pt.locs, Pt.cells, Pt.slots] at X19 l19 y19 z19 st19 hQ19
  subst l19 y19 z19
  obtain ⟨rfl, N19q, K19q, F20, F21, F22⟩ := hQ19
  have K19 := K19q
  have KK19 : Keep h0 T19.heap [] := K13.trans K19 (allS (Or.inr sz_b13) all0)
  have F23 : Exa Z T19.heap b5 "com/example/kura/kura/registry/CountryFormat$Span" := F14.keep K19
  have F24 : Fld Z T19.heap b5 "com/example/kura/kura/registry/CountryFormat$Span" "start" "I" (.int v4) := F15.keep K19 (ninS ne_b5_b13 nin0)
  have F25 : Fld Z T19.heap b5 "com/example/kura/kura/registry/CountryFormat$Span" "end" "I" (.int v10) := F16.keep K19 (ninS ne_b5_b13 nin0)
  have F26 : Exa Z T19.heap b13 "com/example/kura/kura/registry/CountryFormat$Span" := A13.keep K19
  have Z19 : n0 ≤ T19.heap.size := Nat.le_trans Z13 K19.1
  have N19 := Fr.app N8 N19q
  obtain ⟨_, _, ⟨T27, L27, k27, n27⟩, -, X27, ⟨Lc27, hQ27, l27, y27, z27⟩, st27⟩ := Jvm.LawKit.callS X19 hx (y := (⟨"java/lang/Math", "max", "(II)I"⟩ : MethodName)) hown (mvT hZ (hw _ (List.mem_of_getElem? (i := 19) rfl))) (mvT hZ (hw _ (List.mem_of_getElem? (i := 20) rfl))) (mvT hZ (hw _ (List.mem_of_getElem? (i := 21) rfl))) (mvT hZ (hw _ (List.mem_of_getElem? (i := 22) rfl))) (by decide) (backOf (W := 0) (own_rm4 l Z a0 hw [] v4 v16 T19.heap n0 Z19 ) hZ (hw _ (List.mem_of_getElem? (i := 22) rfl)) (hw _ (List.mem_of_getElem? (i := 21) rfl)) (by decide) (by decide)) (g := (mkF m 54 #[.val (.int xa), .val (.int xb), .val (.int xc), .val (.int xd), .val (.int v4), .val (.int v10), .val (.int v16), .val (.int v22), .val (.ref b5), .val (.ref b13), .unset, .unset, .unset] [(.int v16), (.int v4)])) rfl (by rw [hml]; rfl) (argsL := [(.int v4), (.int v16)]) (rest := []) (lenOf own_pd3 rfl) rfl (by show 2 * 0 + _ ≤ _; exact Nat.le_of_eq rfl) (hb hby at_54) (fun _ _ => ⟨rfl, rfl, (by decide : 2 + 0 ≤ _), (by decide : 4 + 0 ≤ _)⟩)
  dsimp only [Pt.U, Pt.locs, Pt.cells, Pt.slots] at X27 l27 y27 z27 st27 hQ27
  subst l27 y27 z27
  obtain ⟨rfl, N27q, eh27⟩ := hQ27
  have N27 := Fr.app N19 N27q
  obtain ⟨_, _, ⟨T28, L28, k28, n28⟩, -, X28, ⟨Lc28, hQ28, l28, y28, z28⟩, st28⟩ := Jvm.LawKit.callS X27 hx (y := (⟨"java/lang/Math", "min", "(II)I"⟩ : MethodName)) hown (mvT hZ (hw _ (List.mem_of_getElem? (i := 23) rfl))) (mvT hZ (hw _ (List.mem_of_getElem? (i := 24) rfl))) (mvT hZ (hw _ (List.mem_of_getElem? (i := 21) rfl))) (mvT hZ (hw _ (List.mem_of_getElem? (i := 25) rfl))) (by decide) (backOf (W := 1) (own_rm5 l Z a0 hw [] v10 v22 T19.heap n0 Z19 ) hZ (hw _ (List.mem_of_getElem? (i := 25) rfl)) (hw _ (List.mem_of_getElem? (i := 21) rfl)) (by decide) (by decide)) (g := (mkF m 61 #[.val (.int xa), .val (.int xb), .val (.int xc), .val (.int xd), .val (.int v4), .val (.int v10), .val (.int v16), .val (.int v22), .val (.ref b5), .val (.ref b13), .unset, .unset, .unset] [(.int v22), (.int v10), (.int (own_max v4 v16))])) rfl (by rw [hml]; rfl) (argsL := [(.int v10), (.int v22)]) (rest := [(.int (own_max v4 v16))]) (lenOf own_pd3 rfl) rfl (by show 2 * 0 + _ ≤ _; exact Nat.le_of_eq rfl) (hb hby at_61) (fun _ _ => ⟨rfl, eh27, (by decide : 2 + 0 ≤ _), (by decide : 4 + 0 ≤ _)⟩)
  dsimp only [Pt.U, Pt.locs, Pt.cells, Pt.slots] at X28 l28 y28 z28 st28 hQ28
  subst l28 y28 z28
  obtain ⟨rfl, N28q, eh28⟩ := hQ28
  have N28 := Fr.app N27 N28q
  have pre29 : ∀ t, Steps p.tables e below (T28.setTop (mkF m 64 #[.val (.int xa), .val (.int xb), .val (.int xc), .val (.int xd), .val (.int v4), .val (.int v10), .val (.int v16), .val (.int v22), .val (.ref b5), .val (.ref b13), .unset, .unset, .unset] [(.int (own_min v10 v22)), (.int (own_max v4 v16))])) t → Steps p.tables e below (s₁.setTop (entryFrame m #[(.int xa), (.int xb), (.int xc), (.int xd)] maxLocals)) t := by
    intro t k
    refine pre4 _ ?_
    show Steps p.tables e below (s₁.setTop (mkF m 24 #[.val (.int xa), .val (.int xb), .val (.int xc), .val (.int xd), .val (.int v4), .val (.int v10), .val (.int v16), .val (.int v22), .unset, .unset, .unset, .unset, .unset] [])) _
    refine st5 _ ?_
    show Steps p.tables e below (T5.setTop (mkF m 27 #[.val (.int xa), .val (.int xb), .val (.int xc), .val (.int xd), .val (.int v4), .val (.int v10), .val (.int v16), .val (.int v22), .unset, .unset, .unset, .unset, .unset] [(.ref b5)])) _
    refine XS.dup X5.here hx rfl (hb hby at_27) rfl rfl ?_
    show Steps p.tables e below (T5.setTop (mkF m 28 #[.val (.int xa), .val (.int xb), .val (.int xc), .val (.int xd), .val (.int v4), .val (.int v10), .val (.int v16), .val (.int v22), .unset, .unset, .unset, .unset, .unset] [(.ref b5), (.ref b5)])) _
    refine XS.iload X5.here hx rfl (hb hby at_28) rfl ?_
    show Steps p.tables e below (T5.setTop (mkF m 30 #[.val (.int xa), .val (.int xb), .val (.int xc), .val (.int xd), .val (.int v4), .val (.int v10), .val (.int v16), .val (.int v22), .unset, .unset, .unset, .unset, .unset] [(.int v4), (.ref b5), (.ref b5)])) _
    refine XS.iload X5.here hx rfl (hb hby at_30) rfl ?_
    show Steps p.tables e below (T5.setTop (mkF m 32 #[.val (.int xa), .val (.int xb), .val (.int xc), .val (.int xd), .val (.int v4), .val (.int v10), .val (.int v16), .val (.int v22), .unset, .unset, .unset, .unset, .unset] [(.int v10), (.int v4), (.ref b5), (.ref b5)])) _
    refine st8.trans ?_
    show Steps p.tables e below (T8.setTop (mkF m 35 #[.val (.int xa), .val (.int xb), .val (.int xc), .val (.int xd), .val (.int v4), .val (.int v10), .val (.int v16), .val (.int v22), .unset, .unset, .unset, .unset, .unset] [(.ref b5)])) _
    refine XS.astore X8.here hx rfl (hb hby at_35) rfl rfl (l' := #[.val (.int xa), .val (.int xb), .val (.int xc), .val (.int xd), .val (.int v4), .val (.int v10), .val (.int v16), .val (.int v22), .val (.ref b5), .unset, .unset, .unset, .unset]) rfl ?_
    show Steps p.tables e below (T8.setTop (mkF m 37 #[.val (.int xa), .val (.int xb), .val (.int xc), .val (.int xd), .val (.int v4), .val (.int v10), .val (.int v16), .val (.int v22), .val (.ref b5), .unset, .unset, .unset, .unset] [])) _
    refine st13 _ ?_
    show Steps p.tables e below (T13.setTop (mkF m 40 #[.val (.int xa), .val (.int xb), .val (.int xc), .val (.int xd), .val (.int v4), .val (.int v10), .val (.int v16), .val (.int v22), .val (.ref b5), .unset, .unset, .unset, .unset] [(.ref b13)])) _
    refine XS.dup X13.here hx rfl (hb hby at_40) rfl rfl ?_
    show Steps p.tables e below (T13.setTop (mkF m 41 #[.val (.int xa), .val (.int xb), .val (.int xc), .val (.int xd), .val (.int v4), .val (.int v10), .val (.int v16), .val (.int v22), .val (.ref b5), .unset, .unset, .unset, .unset] [(.ref b13), (.ref b13)])) _
    refine XS.iload X13.here hx rfl (hb hby at_41) rfl ?_
    show Steps p.tables e below (T13.setTop (mkF m 43 #[.val (.int xa), .val (.int xb), .val (.int xc), .val (.int xd), .val (.int v4), .val (.int v10), .val (.int v16), .val (.int v22), .val (.ref b5), .unset, .unset, .unset, .unset] [(.int v16), (.ref b13), (.ref b13)])) _
    refine XS.iload X13.here hx rfl (hb hby at_43) rfl ?_
    show Steps p.tables e below (T13.setTop (mkF m 45 #[.val (.int xa), .val (.int xb), .val (.int xc), .val (.int xd), .val (.int v4), .val (.int v10), .val (.int v16), .val (.int v22), .val (.ref b5), .unset, .unset, .unset, .unset] [(.int v22), (.int v16), (.ref b13), (.ref b13)])) _
    refine st19.trans ?_
    show Steps p.tables e below (T19.setTop (mkF m 48 #[.val (.int xa), .val (.int xb), .val (.int xc), .val (.int xd), .val (.int v4), .val (.int v10), .val (.int v16), .val (.int v22), .val (.ref b5), .unset, .unset, .unset, .unset] [(.ref b13)])) _
    refine XS.astore X19.here hx rfl (hb hby at_48) rfl rfl (l' := #[.val (.int xa), .val (.int xb), .val (.int xc), .val (.int xd), .val (.int v4), .val (.int v10), .val (.int v16), .val (.int v22), .val (.ref b5), .val (.ref b13), .unset, .unset, .unset]) rfl ?_
    show Steps p.tables e below (T19.setTop (mkF m 50 #[.val (.int xa), .val (.int xb), .val (.int xc), .val (.int xd), .val (.int v4), .val (.int v10), .val (.int v16), .val (.int v22), .val (.ref b5), .val (.ref b13), .unset, .unset, .unset] [])) _
    refine XS.iload X19.here hx rfl (hb hby at_50) rfl ?_
    show Steps p.tables e below (T19.setTop (mkF m 52 #[.val (.int xa), .val (.int xb), .val (.int xc), .val (.int xd), .val (.int v4), .val (.int v10), .val (.int v16), .val (.int v22), .val (.ref b5), .val (.ref b13), .unset, .unset, .unset] [(.int v4)])) _
    refine XS.iload X19.here hx rfl (hb hby at_52) rfl ?_
    show Steps p.tables e below (T19.setTop (mkF m 54 #[.val (.int xa), .val (.int xb), .val (.int xc), .val (.int xd), .val (.int v4), .val (.int v10), .val (.int v16), .val (.int v22), .val (.ref b5), .val (.ref b13), .unset, .unset, .unset] [(.int v16), (.int v4)])) _
    refine st27 _ ?_
    show Steps p.tables e below (T27.setTop (mkF m 57 #[.val (.int xa), .val (.int xb), .val (.int xc), .val (.int xd), .val (.int v4), .val (.int v10), .val (.int v16), .val (.int v22), .val (.ref b5), .val (.ref b13), .unset, .unset, .unset] [(.int (own_max v4 v16))])) _
    refine XS.iload X27.here hx rfl (hb hby at_57) rfl ?_
    show Steps p.tables e below (T27.setTop (mkF m 59 #[.val (.int xa), .val (.int xb), .val (.int xc), .val (.int xd), .val (.int v4), .val (.int v10), .val (.int v16), .val (.int v22), .val (.ref b5), .val (.ref b13), .unset, .unset, .unset] [(.int v10), (.int (own_max v4 v16))])) _
    refine XS.iload X27.here hx rfl (hb hby at_59) rfl ?_
    show Steps p.tables e below (T27.setTop (mkF m 61 #[.val (.int xa), .val (.int xb), .val (.int xc), .val (.int xd), .val (.int v4), .val (.int v10), .val (.int v16), .val (.int v22), .val (.ref b5), .val (.ref b13), .unset, .unset, .unset] [(.int v22), (.int v10), (.int (own_max v4 v16))])) _
    refine st28 _ ?_
    exact k
  obtain ⟨xe, hxe⟩ : ∃ w : Int32, w = (if (own_max v4 v16) < (own_min v10 v22) then (1 : Int32) else (0 : Int32)) := ⟨_, rfl⟩
  have pre30 : ∀ t, Steps p.tables e below (T28.setTop (mkF m 72 #[.val (.int xa), .val (.int xb), .val (.int xc), .val (.int xd), .val (.int v4), .val (.int v10), .val (.int v16), .val (.int v22), .val (.ref b5), .val (.ref b13), .unset, .unset, .unset] [(.int xe)])) t → Steps p.tables e below (s₁.setTop (entryFrame m #[(.int xa), (.int xb), (.int xc), (.int xd)] maxLocals)) t := by
    intro t k
    refine pre29 _ ?_
    by_cases hm64 : (own_max v4 v16) < (own_min v10 v22)
    · have hq := hxe
      rw [if_pos hm64] at hq
      rw [hq] at k
      show Steps p.tables e below (T28.setTop (mkF m 64 #[.val (.int xa), .val (.int xb), .val (.int xc), .val (.int xd), .val (.int v4), .val (.int v10), .val (.int v16), .val (.int v22), .val (.ref b5), .val (.ref b13), .unset, .unset, .unset] [(.int (own_min v10 v22)), (.int (own_max v4 v16))])) _
      refine XS.icmpNo X28.here hx rfl (hb hby at_64) rfl (tlt hm64).2.1 ?_
      show Steps p.tables e below (T28.setTop (mkF m 67 #[.val (.int xa), .val (.int xb), .val (.int xc), .val (.int xd), .val (.int v4), .val (.int v10), .val (.int v16), .val (.int v22), .val (.ref b5), .val (.ref b13), .unset, .unset, .unset] [])) _
      refine XS.iconst X28.here hx rfl (hb hby at_67) ?_
      show Steps p.tables e below (T28.setTop (mkF m 68 #[.val (.int xa), .val (.int xb), .val (.int xc), .val (.int xd), .val (.int v4), .val (.int v10), .val (.int v16), .val (.int v22), .val (.ref b5), .val (.ref b13), .unset, .unset, .unset] [(.int (1 : Int32))])) _
      refine XS.goto X28.here hx rfl (pc0 := 68) (pc' := 72) rfl (hb hby at_68) (by decide) (by decide) ?_
      exact k
    · have hq := hxe
      rw [if_neg hm64] at hq
      rw [hq] at k
      show Steps p.tables e below (T28.setTop (mkF m 64 #[.val (.int xa), .val (.int xb), .val (.int xc), .val (.int xd), .val (.int v4), .val (.int v10), .val (.int v16), .val (.int v22), .val (.ref b5), .val (.ref b13), .unset, .unset, .unset] [(.int (own_min v10 v22)), (.int (own_max v4 v16))])) _
      refine XS.icmpYes X28.here hx rfl (pc0 := 64) (pc' := 71) rfl (hb hby at_64) rfl (flt hm64).2.1 (by decide) (by decide) ?_
      show Steps p.tables e below (T28.setTop (mkF m 71 #[.val (.int xa), .val (.int xb), .val (.int xc), .val (.int xd), .val (.int v4), .val (.int v10), .val (.int v16), .val (.int v22), .val (.ref b5), .val (.ref b13), .unset, .unset, .unset] [])) _
      refine XS.iconst X28.here hx rfl (hb hby at_71) ?_
      exact k
  obtain ⟨cq31, kq31, q31a, q31b, q31c⟩ := isOf hZ eh28 F23
  obtain ⟨_, _, ⟨T31, L31, k31, n31⟩, -, X31, ⟨Lc31, hQ31, l31, y31, z31⟩, st31⟩ := X28.virtualBack hx (y := (⟨"com/example/kura/kura/registry/CountryFormat$Span", "sharesAPlaceWith", "(Lcom/example/kura/kura/registry/CountryFormat$Span;)Z"⟩ : MethodName)) (z := (⟨"com/example/kura/kura/registry/CountryFormat$Span", "sharesAPlaceWith", "(Lcom/example/kura/kura/registry/CountryFormat$Span;)Z"⟩ : MethodName)) hown (mvT hZ (hw _ (List.mem_of_getElem? (i := 26) rfl))) (mvT hZ (hw _ (List.mem_of_getElem? (i := 27) rfl))) (notFace_of_selects (args := #[]) (mvT hZ (hw _ (List.mem_of_getElem? (i := 29) rfl)))) (mvT hZ (hw _ (List.mem_of_getElem? (i := 29) rfl))) (mvT hZ (hw _ (List.mem_of_getElem? (i := 28) rfl))) (by decide) (backOf (W := 0) (own_rm6 l Z a0 hw [] b5 b13 v4 v10 v16 v22 T19.heap n0 Z19 F23 F20 F24 F25 F21 F22) hZ (hw _ (List.mem_of_getElem? (i := 30) rfl)) (hw _ (List.mem_of_getElem? (i := 3) rfl)) (by decide) (by decide)) q31a q31c (g := (mkF m 78 #[.val (.int xa), .val (.int xb), .val (.int xc), .val (.int xd), .val (.int v4), .val (.int v10), .val (.int v16), .val (.int v22), .val (.ref b5), .val (.ref b13), .val (.int xe), .unset, .unset] [(.ref b13), (.ref b5)])) rfl (by rw [hml]; rfl) (Steps.refl _) (argsL := [(.ref b13)]) (rest := []) (lenOf own_pd4 rfl) rfl (by show 2 * 0 + _ ≤ _; exact Nat.le_of_eq rfl) (hb hby at_78) (fun _ _ => ⟨rfl, eh28, (by decide : 2 + 0 ≤ _), (by decide : 4 + 0 ≤ _)⟩)
  dsimp only [Pt.U, Pt.locs, Pt.cells, Pt.slots] at X31 l31 y31 z31 st31 hQ31
  subst l31 y31 z31
  obtain ⟨rfl, N31q, eh31⟩ := hQ31
  have N31 := Fr.app N28 N31q
  obtain ⟨v81, hv81⟩ : ∃ w : Int32, w = (own_sh v4 v10 v16 v22) := ⟨_, rfl⟩
  have pre32 : ∀ t, Steps p.tables e below (T31.setTop (mkF m 83 #[.val (.int xa), .val (.int xb), .val (.int xc), .val (.int xd), .val (.int v4), .val (.int v10), .val (.int v16), .val (.int v22), .val (.ref b5), .val (.ref b13), .val (.int xe), .val (.int v81), .unset] [])) t → Steps p.tables e below (s₁.setTop (entryFrame m #[(.int xa), (.int xb), (.int xc), (.int xd)] maxLocals)) t := by
    intro t k
    rw [hv81] at k
    refine pre30 _ ?_
    show Steps p.tables e below (T28.setTop (mkF m 72 #[.val (.int xa), .val (.int xb), .val (.int xc), .val (.int xd), .val (.int v4), .val (.int v10), .val (.int v16), .val (.int v22), .val (.ref b5), .val (.ref b13), .unset, .unset, .unset] [(.int xe)])) _
    refine XS.istore X28.here hx rfl (hb hby at_72) rfl (l' := #[.val (.int xa), .val (.int xb), .val (.int xc), .val (.int xd), .val (.int v4), .val (.int v10), .val (.int v16), .val (.int v22), .val (.ref b5), .val (.ref b13), .val (.int xe), .unset, .unset]) rfl ?_
    show Steps p.tables e below (T28.setTop (mkF m 74 #[.val (.int xa), .val (.int xb), .val (.int xc), .val (.int xd), .val (.int v4), .val (.int v10), .val (.int v16), .val (.int v22), .val (.ref b5), .val (.ref b13), .val (.int xe), .unset, .unset] [])) _
    refine XS.aload X28.here hx rfl (hb hby at_74) rfl rfl ?_
    show Steps p.tables e below (T28.setTop (mkF m 76 #[.val (.int xa), .val (.int xb), .val (.int xc), .val (.int xd), .val (.int v4), .val (.int v10), .val (.int v16), .val (.int v22), .val (.ref b5), .val (.ref b13), .val (.int xe), .unset, .unset] [(.ref b5)])) _
    refine XS.aload X28.here hx rfl (hb hby at_76) rfl rfl ?_
    show Steps p.tables e below (T28.setTop (mkF m 78 #[.val (.int xa), .val (.int xb), .val (.int xc), .val (.int xd), .val (.int v4), .val (.int v10), .val (.int v16), .val (.int v22), .val (.ref b5), .val (.ref b13), .val (.int xe), .unset, .unset] [(.ref b13), (.ref b5)])) _
    refine st31.trans ?_
    show Steps p.tables e below (T31.setTop (mkF m 81 #[.val (.int xa), .val (.int xb), .val (.int xc), .val (.int xd), .val (.int v4), .val (.int v10), .val (.int v16), .val (.int v22), .val (.ref b5), .val (.ref b13), .val (.int xe), .unset, .unset] [(.int (own_sh v4 v10 v16 v22))])) _
    refine XS.istore X31.here hx rfl (hb hby at_81) rfl (l' := #[.val (.int xa), .val (.int xb), .val (.int xc), .val (.int xd), .val (.int v4), .val (.int v10), .val (.int v16), .val (.int v22), .val (.ref b5), .val (.ref b13), .val (.int xe), .val (.int (own_sh v4 v10 v16 v22)), .unset]) rfl ?_
    exact k
  obtain ⟨cq33, kq33, q33a, q33b, q33c⟩ := isOf hZ eh31 F20
  obtain ⟨_, _, ⟨T33, L33, k33, n33⟩, -, X33, ⟨Lc33, hQ33, l33, y33, z33⟩, st33⟩ := X31.virtualBack hx (y := (⟨"com/example/kura/kura/registry/CountryFormat$Span", "sharesAPlaceWith", "(Lcom/example/kura/kura/registry/CountryFormat$Span;)Z"⟩ : MethodName)) (z := (⟨"com/example/kura/kura/registry/CountryFormat$Span", "sharesAPlaceWith", "(Lcom/example/kura/kura/registry/CountryFormat$Span;)Z"⟩ : MethodName)) hown (mvT hZ (hw _ (List.mem_of_getElem? (i := 26) rfl))) (mvT hZ (hw _ (List.mem_of_getElem? (i := 27) rfl))) (notFace_of_selects (args := #[]) (mvT hZ (hw _ (List.mem_of_getElem? (i := 29) rfl)))) (mvT hZ (hw _ (List.mem_of_getElem? (i := 29) rfl))) (mvT hZ (hw _ (List.mem_of_getElem? (i := 28) rfl))) (by decide) (backOf (W := 0) (own_rm6 l Z a0 hw [] b13 b5 v16 v22 v4 v10 T19.heap n0 Z19 F20 F23 F21 F22 F24 F25) hZ (hw _ (List.mem_of_getElem? (i := 30) rfl)) (hw _ (List.mem_of_getElem? (i := 3) rfl)) (by decide) (by decide)) q33a q33c (g := (mkF m 87 #[.val (.int xa), .val (.int xb), .val (.int xc), .val (.int xd), .val (.int v4), .val (.int v10), .val (.int v16), .val (.int v22), .val (.ref b5), .val (.ref b13), .val (.int xe), .val (.int v81), .unset] [(.ref b5), (.ref b13)])) rfl (by rw [hml]; rfl) (Steps.refl _) (argsL := [(.ref b5)]) (rest := []) (lenOf own_pd4 rfl) rfl (by show 2 * 0 + _ ≤ _; exact Nat.le_of_eq rfl) (hb hby at_87) (fun _ _ => ⟨rfl, eh31, (by decide : 2 + 0 ≤ _), (by decide : 4 + 0 ≤ _)⟩)
  dsimp only [Pt.U, Pt.locs, Pt.cells, Pt.slots] at X33 l33 y33 z33 st33 hQ33
  subst l33 y33 z33
  obtain ⟨rfl, N33q, eh33⟩ := hQ33
  have N33 := Fr.app N31 N33q
  obtain ⟨v90, hv90⟩ : ∃ w : Int32, w = (own_sh v16 v22 v4 v10) := ⟨_, rfl⟩
  have pre34 : ∀ t, Steps p.tables e below (T33.setTop (mkF m 92 #[.val (.int xa), .val (.int xb), .val (.int xc), .val (.int xd), .val (.int v4), .val (.int v10), .val (.int v16), .val (.int v22), .val (.ref b5), .val (.ref b13), .val (.int xe), .val (.int v81), .val (.int v90)] [])) t → Steps p.tables e below (s₁.setTop (entryFrame m #[(.int xa), (.int xb), (.int xc), (.int xd)] maxLocals)) t := by
    intro t k
    rw [hv90] at k
    refine pre32 _ ?_
    show Steps p.tables e below (T31.setTop (mkF m 83 #[.val (.int xa), .val (.int xb), .val (.int xc), .val (.int xd), .val (.int v4), .val (.int v10), .val (.int v16), .val (.int v22), .val (.ref b5), .val (.ref b13), .val (.int xe), .val (.int v81), .unset] [])) _
    refine XS.aload X31.here hx rfl (hb hby at_83) rfl rfl ?_
    show Steps p.tables e below (T31.setTop (mkF m 85 #[.val (.int xa), .val (.int xb), .val (.int xc), .val (.int xd), .val (.int v4), .val (.int v10), .val (.int v16), .val (.int v22), .val (.ref b5), .val (.ref b13), .val (.int xe), .val (.int v81), .unset] [(.ref b13)])) _
    refine XS.aload X31.here hx rfl (hb hby at_85) rfl rfl ?_
    show Steps p.tables e below (T31.setTop (mkF m 87 #[.val (.int xa), .val (.int xb), .val (.int xc), .val (.int xd), .val (.int v4), .val (.int v10), .val (.int v16), .val (.int v22), .val (.ref b5), .val (.ref b13), .val (.int xe), .val (.int v81), .unset] [(.ref b5), (.ref b13)])) _
    refine st33.trans ?_
    show Steps p.tables e below (T33.setTop (mkF m 90 #[.val (.int xa), .val (.int xb), .val (.int xc), .val (.int xd), .val (.int v4), .val (.int v10), .val (.int v16), .val (.int v22), .val (.ref b5), .val (.ref b13), .val (.int xe), .val (.int v81), .unset] [(.int (own_sh v16 v22 v4 v10))])) _
    refine XS.istore X33.here hx rfl (hb hby at_90) rfl (l' := #[.val (.int xa), .val (.int xb), .val (.int xc), .val (.int xd), .val (.int v4), .val (.int v10), .val (.int v16), .val (.int v22), .val (.ref b5), .val (.ref b13), .val (.int xe), .val (.int v81), .val (.int (own_sh v16 v22 v4 v10))]) rfl ?_
    exact k
  have hd35 : v81 = xe := (by rw [hv81, hxe]; exact own_key p1 p2 p3 p4)
  have hd36 : v90 = xe := (by rw [hv90, hxe]; exact own_key' p1 p2 p3 p4)
  obtain ⟨fs, hr, hrun, hended, hW, hsame⟩ := X33.leave (v := some (.int (1 : Int32))) (fun h => by rw [Bd.returns] at h; cases h)
  refine ⟨_, _, pre34 _ ?_, hrun, hended, _, _, rfl, ?_, ⟨_, rfl⟩, hW, hsame.mono (by decide) (by decide)⟩
  · show Steps p.tables e below (T33.setTop (mkF m 92 #[.val (.int xa), .val (.int xb), .val (.int xc), .val (.int xd), .val (.int v4), .val (.int v10), .val (.int v16), .val (.int v22), .val (.ref b5), .val (.ref b13), .val (.int xe), .val (.int v81), .val (.int v90)] [])) _
    refine XS.iload X33.here hx rfl (hb hby at_92) rfl ?_
    show Steps p.tables e below (T33.setTop (mkF m 94 #[.val (.int xa), .val (.int xb), .val (.int xc), .val (.int xd), .val (.int v4), .val (.int v10), .val (.int v16), .val (.int v22), .val (.ref b5), .val (.ref b13), .val (.int xe), .val (.int v81), .val (.int v90)] [(.int v81)])) _
    refine XS.iload X33.here hx rfl (hb hby at_94) rfl ?_
    show Steps p.tables e below (T33.setTop (mkF m 96 #[.val (.int xa), .val (.int xb), .val (.int xc), .val (.int xd), .val (.int v4), .val (.int v10), .val (.int v16), .val (.int v22), .val (.ref b5), .val (.ref b13), .val (.int xe), .val (.int v81), .val (.int v90)] [(.int xe), (.int v81)])) _
    refine XS.icmpNo X33.here hx rfl (hb hby at_96) rfl (teq hd35).2 ?_
    show Steps p.tables e below (T33.setTop (mkF m 99 #[.val (.int xa), .val (.int xb), .val (.int xc), .val (.int xd), .val (.int v4), .val (.int v10), .val (.int v16), .val (.int v22), .val (.ref b5), .val (.ref b13), .val (.int xe), .val (.int v81), .val (.int v90)] [])) _
    refine XS.iload X33.here hx rfl (hb hby at_99) rfl ?_
    show Steps p.tables e below (T33.setTop (mkF m 101 #[.val (.int xa), .val (.int xb), .val (.int xc), .val (.int xd), .val (.int v4), .val (.int v10), .val (.int v16), .val (.int v22), .val (.ref b5), .val (.ref b13), .val (.int xe), .val (.int v81), .val (.int v90)] [(.int v90)])) _
    refine XS.iload X33.here hx rfl (hb hby at_101) rfl ?_
    show Steps p.tables e below (T33.setTop (mkF m 103 #[.val (.int xa), .val (.int xb), .val (.int xc), .val (.int xd), .val (.int v4), .val (.int v10), .val (.int v16), .val (.int v22), .val (.ref b5), .val (.ref b13), .val (.int xe), .val (.int v81), .val (.int v90)] [(.int xe), (.int v90)])) _
    refine XS.icmpNo X33.here hx rfl (hb hby at_103) rfl (teq hd36).2 ?_
    show Steps p.tables e below (T33.setTop (mkF m 106 #[.val (.int xa), .val (.int xb), .val (.int xc), .val (.int xd), .val (.int v4), .val (.int v10), .val (.int v16), .val (.int v22), .val (.ref b5), .val (.ref b13), .val (.int xe), .val (.int v81), .val (.int v90)] [])) _
    refine XS.iconst X33.here hx rfl (hb hby at_106) ?_
    show Steps p.tables e below (T33.setTop (mkF m 107 #[.val (.int xa), .val (.int xb), .val (.int xc), .val (.int xd), .val (.int v4), .val (.int v10), .val (.int v16), .val (.int v22), .val (.ref b5), .val (.ref b13), .val (.int xe), .val (.int v81), .val (.int v90)] [(.int (1 : Int32))])) _
    refine XS.goto X33.here hx rfl (pc0 := 107) (pc' := 111) rfl (hb hby at_107) (by decide) (by decide) ?_
    show Steps p.tables e below (T33.setTop (mkF m 111 #[.val (.int xa), .val (.int xb), .val (.int xc), .val (.int xd), .val (.int v4), .val (.int v10), .val (.int v16), .val (.int v22), .val (.ref b5), .val (.ref b13), .val (.int xe), .val (.int v81), .val (.int v90)] [(.int (1 : Int32))])) _
    exact retN X33 hx (t := .boolean) Bd.returns (by simp) (hb hby at_111) hr
  · show own_Q0 Z xa xb xc xd h0 n0 _ T33.heap _
    rw [eh33]
    exact ⟨rfl, N33⟩
set_option maxRecDepth 65536 in
set_option maxHeartbeats 40000000 in
theorem own_comes_1 {Post : Tables → Env → Array Value → State → Outcome → State → Prop} (hpost : ∀ tb e args s v u, (limb_1_1.after args s (.returned v) u = true ∧ limb_1_2.after args s (.returned v) u = true ∧ True) → FrameEnd s (.returned v) u (Jvm.fieldLocs frame_1_writes args s ++ Jvm.arrayLocs frame_1_arrays args s ++ Jvm.staticLocs frame_1_statics s) 16 128 → Post tb e args s (.returned v) u) :
    ArmFor flags0 classFile x code maxLocals ret World_1 tables_1 room_1 Calls_1 rest_1 Pre_1 Post := by
  intro l hfl _ _ p e ha hc hk s m args below hf hA hF happ hP
  obtain ⟨hcalls, hrest, hpre⟩ := hP
  obtain ⟨-, -, -, hnamed, -, -, -, hat⟩ := (Spec.applies_iff hf).mp happ
  obtain ⟨hg, hn⟩ := and_e (Cond.before_iff.mp (show (Jvm.Cond.and given_1 narrow_1).before args s = true from hpre))
  obtain ⟨gg1, gg2⟩ := and_e hg
  obtain ⟨gg3, gg4⟩ := and_e gg2
  obtain ⟨gg5, gg6⟩ := and_e gg4
  obtain ⟨gg7, gg8⟩ := and_e gg6
  obtain ⟨w0, w1, w2, w3, rfl⟩ : ∃ w0 w1 w2 w3 : Value, args = #[w0, w1, w2, w3] := by
    have hs : args.size = 4 := by simpa [Cond.value, given_1] using gg1
    obtain ⟨L⟩ := args
    match L, hs with
    | [w0, w1, w2, w3], _ => exact ⟨w0, w1, w2, w3, rfl⟩
  have hw := fun d (hd : d ∈ tables_1) => atoms_spec (ws := Jvm.Cond.code x code maxLocals ret :: tables_1) hat d (List.mem_cons_of_mem _ hd)
  have hfit : Fit s := fun {y c} hc i hi => by
    obtain ⟨ha, rfl⟩ := Array.getElem?_eq_some_iff.mp hc
    have q := List.all_eq_true.mp ((Array.all_eq_true_iff_forall_mem.mp hF) _ (Array.getElem_mem ha)) i (List.mem_range.mpr hi)
    simpa [Array.getElem?_eq_getElem hi] using q
  obtain ⟨i0, ei0⟩ := is_v gg3
  obtain rfl : w0 = (.int i0) := Option.some.inj ei0
  obtain ⟨i1, ei1⟩ := is_v gg5
  obtain rfl : w1 = (.int i1) := Option.some.inj ei1
  obtain ⟨i2, ei2⟩ := is_v gg7
  obtain rfl : w2 = (.int i2) := Option.some.inj ei2
  obtain ⟨i3, ei3⟩ := is_v gg8
  obtain rfl : w3 = (.int i3) := Option.some.inj ei3
  obtain ⟨n, o, h1, h2, h3, _, L, rfl, ⟨rfl, N⟩, hq⟩ := own_rm0 l s _ hw tables_1 i0 i1 i2 i3  s.heap s.heap.size (Nat.le_refl _)  p e ha hc hk s m _ below hf ((Spec.applies_iff_loose hf).mp happ).1 ⟨rfl, State.Warmed39.refl s, rfl⟩ trivial
  refine ⟨n, _, h1, h2, h3, hpost _ _ _ _ _ _ ⟨Cond.after_iff.mpr rfl, Cond.after_iff.mpr (eq_i res_at (Term.int_eval (1)) rfl), trivial⟩ ⟨hq.1, hq.2.1, (hq.2.2.sift fun y hy => Or.inr (N y hy)).mono (by decide) (by decide)⟩⟩
theorem main_1_1 : Claimed_1_1 := own_comes_1 fun _ _ _ _ _ _ h hF => ⟨h.1, hF⟩
theorem main_1_2 : Claimed_1_2 := own_comes_1 fun _ _ _ _ _ _ h hF => ⟨h.2.1, hF⟩
end Jvm.Pilot.@@N@@
namespace Jvm.Pilot.@@N@@
open Jvm Jvm.ClassFile Sem Op Lib Jvm.Free Jvm.Stand Jvm.Pilot.@@N@@.Jvm.D
/-! MADE BY PROGRAM (witnessworld.py) out of the Statement's table words and the real class files: 11 classes; the members and pool entries that the words name. The judged class is class 1, her method 1. -/
namespace start1
open Jvm.ClassFile
def u (s : String) : CpInfo := .utf8 (stringToUtf16 s)
/-- a pool by its gaps: so many unusable entries, then the entry; so many at the end -/
def gap : Nat → List CpInfo → List CpInfo
  | 0, r => r
  | n + 1, r => .unusable :: gap n r
def poolList (es : List (Nat × CpInfo)) (last : Nat) : List CpInfo := es.foldr (fun e r => gap e.1 (e.2 :: r)) (gap last [])
def pool (es : List (Nat × CpInfo)) (last : Nat) : Array CpInfo := ⟨poolList es last⟩
def fileOf (pool : Array CpInfo) (this : Nat) (attrs : Array Attribute := #[]) (ms : Array MethodInfo := #[]) (fl : Nat := 33) (sup : Nat := 0) (ifs : Array Nat := #[]) (fds : Array FieldInfo := #[]) : ClassFile where
  minorVersion := 0
  majorVersion := 65
  constantPool := pool
  accessFlags := fl
  thisClass := this
  superClass := sup
  interfaces := ifs
  fields := fds
  methods := ms
  attributes := attrs
def plain (name : String) (sup : Option ClassId) : Class where
  name := name
  kind := .ordinary
  loader := none
  accessFlags := 33
  super := sup
  interfaces := #[]
  cf := none
  fields := #[]
  methods := #[]
  instanceTypes := #[]
  staticTypes := #[]
  resolved := #[]
  callSites := []
  init := .initialized
  statics := none
  mirror := none

def pool0 : Array CpInfo := pool [(5, u "<init>"), (0, u "()V"), (1, .class_ 10), (1, u "java/lang/Object")] 113

def k0c0 : Code := { maxStack := 0, maxLocals := 1, code := object_method_1_code, exceptionTable := #[], attributes := #[] }
def k0m0 : Method := { name := "<init>", desc := "()V", sig := { parameters := [], returnType := none }, accessFlags := 1, code := some k0c0 }
/-- java/lang/Object -/
def k0 : Class := { plain "java/lang/Object" none with
  accessFlags := 33
  interfaces := #[]
  cf := some (fileOf pool0 8 #[] #[{ accessFlags := 1, nameIndex := 5, descriptorIndex := 6, attributes := #[] }] 33 0 #[] #[])
  fields := #[]
  methods := #[k0m0]
  instanceTypes := #[]
  staticTypes := #[]
  resolved := Array.replicate 124 none
  statics := none }

def pool1 : Array CpInfo := pool [(2, .class_ 4), (1, u "java/lang/Object"), (0, u "<init>"), (0, u "()V"), (0, .integer 2147483647), (0, .class_ 9), (0, u "com/example/kura/kura/registry/CountryFormat$Span"), (0, .methodref 8 11), (0, .nameAndType 5 12), (0, u "(II)V"), (0, .methodref 14 15), (0, .class_ 16), (0, .nameAndType 17 18), (0, u "java/lang/Math"), (0, u "max"), (0, u "(II)I"), (0, .methodref 14 20), (0, .nameAndType 21 18), (0, u "min"), (0, .methodref 8 23), (0, .nameAndType 24 25), (0, u "sharesAPlaceWith"), (0, u "(Lcom/example/kura/kura/registry/CountryFormat$Span;)Z"), (0, .class_ 27), (0, u "com/example/kura/kura/registry/SpanSharesAPlaceWithPinLaw"), (2, u "law"), (0, u "(IIII)Z")] 7

def k1m0 : Method := { name := "<init>", desc := "()V", sig := { parameters := [], returnType := none }, accessFlags := 1, code := none }
def k1c1 : Code := { maxStack := 4, maxLocals := 13, code := code, exceptionTable := #[], attributes := #[] }
def k1m1 : Method := { name := "law", desc := "(IIII)Z", sig := { parameters := [.int, .int, .int, .int], returnType := some .boolean }, accessFlags := 9, code := some k1c1 }
/-- com/example/kura/kura/registry/SpanSharesAPlaceWithPinLaw -/
def k1 : Class := { plain "com/example/kura/kura/registry/SpanSharesAPlaceWithPinLaw" (some 0) with
  accessFlags := 49
  interfaces := #[]
  cf := some (fileOf pool1 26 #[] #[{ accessFlags := 1, nameIndex := 5, descriptorIndex := 6, attributes := #[] }, { accessFlags := 9, nameIndex := 30, descriptorIndex := 31, attributes := #[] }] 49 2 #[] #[])
  fields := #[]
  methods := #[k1m0, k1m1]
  instanceTypes := #[]
  staticTypes := #[]
  resolved := Array.replicate 39 none
  statics := none }

def pool2 : Array CpInfo := pool [(1, .methodref 2 3), (0, .class_ 4), (0, .nameAndType 5 6), (0, u "java/lang/Object"), (0, u "<init>"), (0, u "()V"), (0, .class_ 8), (0, u "java/lang/Record")] 13

def k2c0 : Code := { maxStack := 1, maxLocals := 1, code := jdk_30_method_1_code, exceptionTable := #[], attributes := #[] }
def k2m0 : Method := { name := "<init>", desc := "()V", sig := { parameters := [], returnType := none }, accessFlags := 4, code := some k2c0 }
/-- java/lang/Record -/
def k2 : Class := { plain "java/lang/Record" (some 0) with
  accessFlags := 1057
  interfaces := #[]
  cf := some (fileOf pool2 7 #[] #[{ accessFlags := 4, nameIndex := 5, descriptorIndex := 6, attributes := #[] }] 1057 2 #[] #[])
  fields := #[]
  methods := #[k2m0]
  instanceTypes := #[]
  staticTypes := #[]
  resolved := Array.replicate 22 none
  statics := none }

def pool3 : Array CpInfo := pool [(1, .class_ 2), (0, u "com/example/kura/kura/registry/CountryFormat"), (0, .methodref 4 5), (0, .class_ 6), (0, .nameAndType 7 8), (0, u "java/lang/Record"), (0, u "<init>"), (0, u "()V"), (0, .fieldref 10 11), (0, .class_ 12), (0, .nameAndType 13 14), (0, u "com/example/kura/kura/registry/CountryFormat$Span"), (0, u "start"), (0, u "I"), (0, .fieldref 10 16), (0, .nameAndType 17 14), (0, u "end"), (0, .methodref 10 19), (0, .nameAndType 20 21), (0, u "length"), (0, u "()I"), (30, u "(II)V"), (2, u "NONE"), (0, u "Lcom/example/kura/kura/registry/CountryFormat$Span;"), (3, u "sharesAPlaceWith"), (0, u "(Lcom/example/kura/kura/registry/CountryFormat$Span;)Z")] 31

def k3c0 : Code := { maxStack := 2, maxLocals := 3, code := prog_14_method_1_code, exceptionTable := #[], attributes := #[] }
def k3m0 : Method := { name := "<init>", desc := "(II)V", sig := { parameters := [.int, .int], returnType := none }, accessFlags := 0, code := some k3c0 }
def k3c1 : Code := { maxStack := 2, maxLocals := 1, code := prog_14_method_2_code, exceptionTable := #[], attributes := #[] }
def k3m1 : Method := { name := "length", desc := "()I", sig := { parameters := [], returnType := some .int }, accessFlags := 0, code := some k3c1 }
def k3c2 : Code := { maxStack := 2, maxLocals := 2, code := prog_14_method_3_code, exceptionTable := #[], attributes := #[] }
def k3m2 : Method := { name := "sharesAPlaceWith", desc := "(Lcom/example/kura/kura/registry/CountryFormat$Span;)Z", sig := { parameters := [(.object "com/example/kura/kura/registry/CountryFormat$Span")], returnType := some .boolean }, accessFlags := 0, code := some k3c2 }
/-- com/example/kura/kura/registry/CountryFormat$Span -/
def k3 : Class := { plain "com/example/kura/kura/registry/CountryFormat$Span" (some 2) with
  accessFlags := 48
  interfaces := #[]
  cf := some (fileOf pool3 10 #[.nestHost 1] #[{ accessFlags := 0, nameIndex := 7, descriptorIndex := 52, attributes := #[] }, { accessFlags := 0, nameIndex := 20, descriptorIndex := 21, attributes := #[] }, { accessFlags := 0, nameIndex := 60, descriptorIndex := 61, attributes := #[] }] 48 4 #[] #[{ accessFlags := 18, nameIndex := 13, descriptorIndex := 14, attributes := #[] }, { accessFlags := 18, nameIndex := 17, descriptorIndex := 14, attributes := #[] }, { accessFlags := 24, nameIndex := 55, descriptorIndex := 56, attributes := #[] }])
  fields := #[{ name := "start", type := .int, accessFlags := 18, slot := 0, constantValue := 0 }, { name := "end", type := .int, accessFlags := 18, slot := 1, constantValue := 0 }, { name := "NONE", type := (.object "com/example/kura/kura/registry/CountryFormat$Span"), accessFlags := 24, slot := 0, constantValue := 0 }]
  methods := #[k3m0, k3m1, k3m2]
  instanceTypes := #[.int, .int]
  staticTypes := #[(.object "com/example/kura/kura/registry/CountryFormat$Span")]
  resolved := Array.replicate 93 none
  statics := none }

def pool4 : Array CpInfo := pool [(1, .class_ 2), (0, u "java/lang/Math"), (1, .class_ 6), (1, u "java/lang/Object"), (0, u "<init>"), (0, u "()V"), (89, .class_ 100), (1, u "java/lang/Math$RandomNumberGeneratorHolder"), (71, u "negativeZeroFloatBits"), (0, u "J"), (2, u "negativeZeroDoubleBits"), (21, u "max"), (2, u "min"), (43, u "$assertionsDisabled"), (0, u "Z"), (88, u "(II)I"), (2, u "twoToTheDoubleScaleDown"), (0, u "D"), (4, u "twoToTheDoubleScaleUp"), (9, u "E"), (3, u "PI"), (2, u "TAU"), (2, u "DEGREES_TO_RADIANS"), (0, u "RADIANS_TO_DEGREES")] 94

def k4m0 : Method := { name := "<init>", desc := "()V", sig := { parameters := [], returnType := none }, accessFlags := 2, code := none }
def k4c1 : Code := { maxStack := 2, maxLocals := 2, code := jdk_29_method_65_code, exceptionTable := #[], attributes := #[] }
def k4m1 : Method := { name := "max", desc := "(II)I", sig := { parameters := [.int, .int], returnType := some .int }, accessFlags := 9, code := some k4c1 }
def k4c2 : Code := { maxStack := 2, maxLocals := 2, code := jdk_29_method_69_code, exceptionTable := #[], attributes := #[] }
def k4m2 : Method := { name := "min", desc := "(II)I", sig := { parameters := [.int, .int], returnType := some .int }, accessFlags := 9, code := some k4c2 }
/-- java/lang/Math -/
def k4 : Class := { plain "java/lang/Math" (some 0) with
  accessFlags := 49
  interfaces := #[]
  cf := some (fileOf pool4 1 #[.nestMembers #[98]] #[{ accessFlags := 2, nameIndex := 7, descriptorIndex := 8, attributes := #[] }, { accessFlags := 9, nameIndex := 198, descriptorIndex := 335, attributes := #[] }, { accessFlags := 9, nameIndex := 201, descriptorIndex := 335, attributes := #[] }] 49 4 #[] #[{ accessFlags := 25, nameIndex := 354, descriptorIndex := 339, attributes := #[] }, { accessFlags := 25, nameIndex := 358, descriptorIndex := 339, attributes := #[] }, { accessFlags := 25, nameIndex := 361, descriptorIndex := 339, attributes := #[] }, { accessFlags := 26, nameIndex := 364, descriptorIndex := 339, attributes := #[] }, { accessFlags := 26, nameIndex := 365, descriptorIndex := 339, attributes := #[] }, { accessFlags := 26, nameIndex := 172, descriptorIndex := 173, attributes := #[] }, { accessFlags := 26, nameIndex := 176, descriptorIndex := 173, attributes := #[] }, { accessFlags := 8, nameIndex := 344, descriptorIndex := 339, attributes := #[] }, { accessFlags := 8, nameIndex := 338, descriptorIndex := 339, attributes := #[] }, { accessFlags := 4120, nameIndex := 245, descriptorIndex := 246, attributes := #[] }])
  fields := #[{ name := "E", type := .double, accessFlags := 25, slot := 0, constantValue := 0 }, { name := "PI", type := .double, accessFlags := 25, slot := 1, constantValue := 0 }, { name := "TAU", type := .double, accessFlags := 25, slot := 2, constantValue := 0 }, { name := "DEGREES_TO_RADIANS", type := .double, accessFlags := 26, slot := 3, constantValue := 0 }, { name := "RADIANS_TO_DEGREES", type := .double, accessFlags := 26, slot := 4, constantValue := 0 }, { name := "negativeZeroFloatBits", type := .long, accessFlags := 26, slot := 5, constantValue := 0 }, { name := "negativeZeroDoubleBits", type := .long, accessFlags := 26, slot := 6, constantValue := 0 }, { name := "twoToTheDoubleScaleUp", type := .double, accessFlags := 8, slot := 7, constantValue := 0 }, { name := "twoToTheDoubleScaleDown", type := .double, accessFlags := 8, slot := 8, constantValue := 0 }, { name := "$assertionsDisabled", type := .boolean, accessFlags := 4120, slot := 9, constantValue := 0 }]
  methods := #[k4m0, k4m1, k4m2]
  instanceTypes := #[]
  staticTypes := #[.double, .double, .double, .double, .double, .long, .long, .double, .double, .boolean]
  resolved := Array.replicate 460 none
  statics := none }

def pool5 : Array CpInfo := pool [(1, u "java/lang/Cloneable"), (0, .class_ 1), (0, u "java/lang/Object"), (0, .class_ 3)] 3

/-- java/lang/Cloneable -/
def k5 : Class := { plain "java/lang/Cloneable" (some 0) with
  accessFlags := 1537
  interfaces := #[]
  cf := some (fileOf pool5 2 #[] #[] 1537 4 #[] #[])
  fields := #[]
  methods := #[]
  instanceTypes := #[]
  staticTypes := #[]
  resolved := Array.replicate 8 none
  statics := none }

def pool6 : Array CpInfo := pool [(1, u "java/io/Serializable"), (0, .class_ 1), (0, u "java/lang/Object"), (0, .class_ 3)] 3

/-- java/io/Serializable -/
def k6 : Class := { plain "java/io/Serializable" (some 0) with
  accessFlags := 1537
  interfaces := #[]
  cf := some (fileOf pool6 2 #[] #[] 1537 4 #[] #[])
  fields := #[]
  methods := #[]
  instanceTypes := #[]
  staticTypes := #[]
  resolved := Array.replicate 8 none
  statics := none }

/-- the primitive byte -/
def k7 : Class := { plain "byte" none with kind := .primitive 'B', accessFlags := 0x411 }
/-- [B -/
def k8 : Class := { plain "[B" (some 0) with kind := .array 7 .byte, interfaces := #[5, 6], accessFlags := 1041 }

/-- the primitive int -/
def k9 : Class := { plain "int" none with kind := .primitive 'I', accessFlags := 0x411 }
/-- [I -/
def k10 : Class := { plain "[I" (some 0) with kind := .array 9 .int, interfaces := #[5, 6], accessFlags := 1041 }

def heap : Heap := #[]
def classes : Array Class := #[k0, k1, k2, k3, k4, k5, k6, k7, k8, k9, k10]
def interned : List (Array UInt16 × Addr) := []
def slotsUsed : Nat := 0
def theMethod : MethodId := ⟨1, 1⟩
def args0 : Array Value := #[.int 1, .int 5, .int 3, .int 9]
def aboutOver (below : List Frame) : State where
  vm := { classes := classes, interned := interned.toArray }
  heap := heap
  slotsUsed := slotsUsed
  threads := #[{ frames := .invoking theMethod args0 :: below }]
def below0 : List Frame := [.native { method := ⟨0, 0⟩, args := #[] }]
def about1 : State := aboutOver below0
def p0 : Program := .bare "" "" ""
def e0 : Env := launch0.env 0 0 0
theorem w_frames : about1.frames = Frame.invoking theMethod args0 :: below0 := rfl
set_option maxRecDepth 65536 in
theorem w_args : argsFit about1.vm theMethod args0 = true := by decide +kernel
set_option maxRecDepth 65536 in
theorem w_heap : heapFits about1 = true := by decide +kernel
set_option maxRecDepth 65536 in
theorem w_runnable : about1.curStatus? = some .runnable := by decide +kernel
set_option maxRecDepth 65536 in
theorem w_alone : about1.alone = true := by decide +kernel
set_option maxRecDepth 65536 in
theorem w_named : about1.methodNamed? x = some theMethod := by decide +kernel
set_option maxRecDepth 65536 in
theorem w_hears : about1.hears theMethod below0 = true := by decide +kernel
set_option maxRecDepth 65536 in
theorem w_ripe : about1.ripe theMethod args0 below0 = true := by decide +kernel
theorem w_running : about1.status = .running := rfl
set_option maxRecDepth 65536 in
theorem w_room : about1.hasRoom e0.platform room_1 = true :=
  launch0.hasRoom_least _ room_1 (by decide +kernel) (by decide +kernel) (by decide +kernel) (by decide +kernel) (by decide +kernel) (by decide +kernel)
theorem allAtoms_all (ts : List Jvm.Cond) (a : Array Jvm.Value) (st : Jvm.State) : (allAtoms ts).before a st = ts.all (fun c => c.before a st) := by
  induction ts with
  | nil => rfl
  | cons c t ih =>
    show (Jvm.Cond.and c (allAtoms t)).before a st = _
    rw [Jvm.Cond.before_and, ih, List.all_cons]
def words1 : List Jvm.Cond := Jvm.Cond.code x code maxLocals ret :: tables_1
/-- a 'code' word, met by the world's own term for the bytes: nothing is compared byte by byte -/
theorem code_word {y : MethodName} {bytes : ByteArray} {mx : Nat} {rt : Option FieldType} {a : Array Value} {s : State} {m : MethodId} {meth : Method} {c : Code} (h1 : s.methodNamed? y = some m) (h2 : s.vm.method? m = some meth) (h3 : meth.code = some c) (h4 : c.code = bytes)
    (h5 : (c.maxLocals == mx && c.exceptionTable.isEmpty && decide (c.maxStack ≤ mostOperands) && decide (meth.sig.returnType = rt) && !meth.locks && decide (parseMethodDescriptor y.desc = some meth.sig)) = true) : (Jvm.Cond.code y bytes mx rt).before a s = true := by
  simp only [Bool.and_eq_true, beq_iff_eq, Bool.not_eq_true', decide_eq_true_eq] at h5
  obtain ⟨⟨⟨⟨⟨g1, g2⟩, g3⟩, g4⟩, g5⟩, g6⟩ := h5
  simp [Cond.before, Cond.holds, Cond.value, h1, h2, h3, h4, g1, g2, g3, g4, g5, g6]
def isCode : Jvm.Cond → Bool
  | .code _ _ _ _ => true
  | _ => false
theorem all_split {L : List Jvm.Cond} {P : Jvm.Cond → Bool} (h1 : L.all (fun c => isCode c || P c) = true) (h2 : ∀ c ∈ L.filter isCode, P c = true) : L.all P = true := by
  refine List.all_eq_true.mpr fun c hc => ?_
  have h := List.all_eq_true.mp h1 c hc
  rcases Bool.eq_false_or_eq_true (isCode c) with hi | hi
  · exact h2 c (List.mem_filter.mpr ⟨hc, hi⟩)
  · simpa [hi] using h
set_option maxRecDepth 65536 in
theorem w_c0 : (Jvm.Cond.code x code maxLocals ret).before args0 about1 = true := code_word (m := ⟨1, 1⟩) (meth := k1m1) (c := k1c1) (by decide +kernel) rfl rfl rfl (by decide +kernel)
set_option maxRecDepth 65536 in
theorem w_c1 : (Jvm.Cond.code ({ cls := "com/example/kura/kura/registry/CountryFormat$Span", name := "<init>", desc := "(II)V" } : Jvm.MethodName) prog_14_method_1_code (3 : Nat) (Option.none : Option Jvm.ClassFile.FieldType)).before args0 about1 = true := code_word (m := ⟨3, 0⟩) (meth := k3m0) (c := k3c0) (by decide +kernel) rfl rfl rfl (by decide +kernel)
set_option maxRecDepth 65536 in
theorem w_c2 : (Jvm.Cond.code ({ cls := "java/lang/Record", name := "<init>", desc := "()V" } : Jvm.MethodName) jdk_30_method_1_code (1 : Nat) (Option.none : Option Jvm.ClassFile.FieldType)).before args0 about1 = true := code_word (m := ⟨2, 0⟩) (meth := k2m0) (c := k2c0) (by decide +kernel) rfl rfl rfl (by decide +kernel)
set_option maxRecDepth 65536 in
theorem w_c3 : (Jvm.Cond.code ({ cls := "java/lang/Object", name := "<init>", desc := "()V" } : Jvm.MethodName) object_method_1_code (1 : Nat) (Option.none : Option Jvm.ClassFile.FieldType)).before args0 about1 = true := code_word (m := ⟨0, 0⟩) (meth := k0m0) (c := k0c0) (by decide +kernel) rfl rfl rfl (by decide +kernel)
set_option maxRecDepth 65536 in
theorem w_c4 : (Jvm.Cond.code ({ cls := "java/lang/Math", name := "max", desc := "(II)I" } : Jvm.MethodName) jdk_29_method_65_code (2 : Nat) (Option.some Jvm.ClassFile.FieldType.int)).before args0 about1 = true := code_word (m := ⟨4, 1⟩) (meth := k4m1) (c := k4c1) (by decide +kernel) rfl rfl rfl (by decide +kernel)
set_option maxRecDepth 65536 in
theorem w_c5 : (Jvm.Cond.code ({ cls := "java/lang/Math", name := "min", desc := "(II)I" } : Jvm.MethodName) jdk_29_method_69_code (2 : Nat) (Option.some Jvm.ClassFile.FieldType.int)).before args0 about1 = true := code_word (m := ⟨4, 2⟩) (meth := k4m2) (c := k4c2) (by decide +kernel) rfl rfl rfl (by decide +kernel)
set_option maxRecDepth 65536 in
theorem w_c6 : (Jvm.Cond.code ({ cls := "com/example/kura/kura/registry/CountryFormat$Span", name := "sharesAPlaceWith", desc := "(Lcom/example/kura/kura/registry/CountryFormat$Span;)Z" } : Jvm.MethodName) prog_14_method_3_code (2 : Nat) (Option.some Jvm.ClassFile.FieldType.boolean)).before args0 about1 = true := code_word (m := ⟨3, 2⟩) (meth := k3m2) (c := k3c2) (by decide +kernel) rfl rfl rfl (by decide +kernel)
set_option maxRecDepth 65536 in
theorem w_c7 : (Jvm.Cond.code ({ cls := "com/example/kura/kura/registry/CountryFormat$Span", name := "length", desc := "()I" } : Jvm.MethodName) prog_14_method_2_code (1 : Nat) (Option.some Jvm.ClassFile.FieldType.int)).before args0 about1 = true := code_word (m := ⟨3, 1⟩) (meth := k3m1) (c := k3c1) (by decide +kernel) rfl rfl rfl (by decide +kernel)
def codes1 : List Jvm.Cond := [Jvm.Cond.code x code maxLocals ret, Jvm.Cond.code ({ cls := "com/example/kura/kura/registry/CountryFormat$Span", name := "<init>", desc := "(II)V" } : Jvm.MethodName) prog_14_method_1_code (3 : Nat) (Option.none : Option Jvm.ClassFile.FieldType), Jvm.Cond.code ({ cls := "java/lang/Record", name := "<init>", desc := "()V" } : Jvm.MethodName) jdk_30_method_1_code (1 : Nat) (Option.none : Option Jvm.ClassFile.FieldType), Jvm.Cond.code ({ cls := "java/lang/Object", name := "<init>", desc := "()V" } : Jvm.MethodName) object_method_1_code (1 : Nat) (Option.none : Option Jvm.ClassFile.FieldType), Jvm.Cond.code ({ cls := "java/lang/Math", name := "max", desc := "(II)I" } : Jvm.MethodName) jdk_29_method_65_code (2 : Nat) (Option.some Jvm.ClassFile.FieldType.int), Jvm.Cond.code ({ cls := "java/lang/Math", name := "min", desc := "(II)I" } : Jvm.MethodName) jdk_29_method_69_code (2 : Nat) (Option.some Jvm.ClassFile.FieldType.int), Jvm.Cond.code ({ cls := "com/example/kura/kura/registry/CountryFormat$Span", name := "sharesAPlaceWith", desc := "(Lcom/example/kura/kura/registry/CountryFormat$Span;)Z" } : Jvm.MethodName) prog_14_method_3_code (2 : Nat) (Option.some Jvm.ClassFile.FieldType.boolean), Jvm.Cond.code ({ cls := "com/example/kura/kura/registry/CountryFormat$Span", name := "length", desc := "()I" } : Jvm.MethodName) prog_14_method_2_code (1 : Nat) (Option.some Jvm.ClassFile.FieldType.int)]
set_option maxRecDepth 65536 in
theorem codes_eq : words1.filter isCode = codes1 := rfl
theorem w_codes : ∀ c ∈ words1.filter isCode, c.before args0 about1 = true := by
  rw [codes_eq]
  intro c hc
  simp only [codes1, List.mem_cons, List.not_mem_nil, or_false] at hc
  rcases hc with rfl | rfl | rfl | rfl | rfl | rfl | rfl | rfl
  · exact w_c0
  · exact w_c1
  · exact w_c2
  · exact w_c3
  · exact w_c4
  · exact w_c5
  · exact w_c6
  · exact w_c7
set_option maxRecDepth 65536 in
theorem w_t1 : (words1.take 24).all (fun c => isCode c || c.before args0 about1) = true := by decide +kernel
set_option maxRecDepth 65536 in
theorem w_t2 : (words1.drop 24).all (fun c => isCode c || c.before args0 about1) = true := by decide +kernel
theorem w_tables : (allAtoms (Jvm.Cond.code x code maxLocals ret :: tables_1)).before args0 about1 = true := by
  rw [allAtoms_all]
  show words1.all (fun c => c.before args0 about1) = true
  refine all_split ?_ w_codes
  rw [← List.take_append_drop 24 words1, List.all_append, w_t1, w_t2]
  rfl
set_option maxRecDepth 65536 in
theorem w_case : (Jvm.Cond.and given_1 narrow_1).before args0 about1 = true := by decide +kernel
theorem w_applies : (headSpec (Jvm.Cond.code x code maxLocals ret :: tables_1) room_1).applies x e0.platform about1 = true :=
  (Spec.applies_iff w_frames).mpr ⟨w_running, w_runnable, w_alone, w_named, w_hears, w_ripe, w_room, w_tables⟩
theorem atStart : AtStart classFile x code maxLocals ret World_1 tables_1 room_1 Calls_1 rest_1 Pre_1 launch0 p0 e0 about1 theMethod args0 below0 :=
  ⟨lists_1, trivial, launch0.admits_env _ _ _, launch0.least_env, fairChoices_fair.cas, fairChoices_fair.clock, w_frames, w_args, w_heap, w_applies, trivial, trivial, w_case⟩
end start1
theorem witness_1 : WitnessClaimed_1 := ⟨start1.p0, start1.e0, start1.about1, start1.theMethod, start1.args0, start1.below0, start1.atStart⟩
end Jvm.Pilot.@@N@@
