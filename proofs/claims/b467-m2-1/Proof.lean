import JvmDerived
import JvmDerived.Pilot.@@N@@Statement
import JvmDerived.Pilot.@@N@@Code
set_option linter.unusedVariables false
set_option linter.unusedSimpArgs false
namespace Jvm.RoadKit
open Sem ClassFile Op Lib Jvm.Stand Jvm.Free Jvm.LawKit
section New
variable {p : Program} {l : Launch} {e : Env} {R : Room} {s : State} {m : MethodId} {args : Array Value} {below : List Frame} {meth : Method} {c : Code} {T : State} {locs : List Loc} {cells slots : Nat}
theorem retI (X : Stand p l e R s m args below meth c T locs cells slots) (hx : p.tables.exec = Jvm.exec) {pc : Nat} {Ls : Array Slot} {z : Int32} {rest : List Value} (hret : meth.sig.returnType = some .int) (hd : decode c.code pc = .ok (.ireturn, 1)) {fs : List Frame}
    (hl : ∀ (f : JFrame) (acts : List Action), f.method = m → f.locked = none → f.entered = [] → (doReturn e (T.setTop f) acts (some (.int z))).1 = T.setFrames fs) : Steps p.tables e below (T.setTop (mkF m pc Ls (.int z :: rest))) (T.setFrames fs) :=
  retOut X hx hret rfl (Or.inl ⟨rfl, Or.inl rfl, z, rfl⟩) hd hl
theorem retJ (X : Stand p l e R s m args below meth c T locs cells slots) (hx : p.tables.exec = Jvm.exec) {pc : Nat} {Ls : Array Slot} {z : Int64} {rest : List Value} (hret : meth.sig.returnType = some .long) (hd : decode c.code pc = .ok (.lreturn, 1)) {fs : List Frame}
    (hl : ∀ (f : JFrame) (acts : List Action), f.method = m → f.locked = none → f.entered = [] → (doReturn e (T.setTop f) acts (some (.long z))).1 = T.setFrames fs) : Steps p.tables e below (T.setTop (mkF m pc Ls (.long z :: rest))) (T.setFrames fs) :=
  retOut X hx hret rfl (Or.inr (Or.inl ⟨rfl, rfl, z, rfl⟩)) hd hl
theorem retA (X : Stand p l e R s m args below meth c T locs cells slots) (hx : p.tables.exec = Jvm.exec) {pc : Nat} {Ls : Array Slot} {w : Value} {rest : List Value} {t : FieldType} (hret : meth.sig.returnType = some t) (ht : t.isReference = true) (hn : narrow t w = w) (hw : w.isRef = true) (hd : decode c.code pc = .ok (.areturn, 1)) {fs : List Frame}
    (hl : ∀ (f : JFrame) (acts : List Action), f.method = m → f.locked = none → f.entered = [] → (doReturn e (T.setTop f) acts (some w)).1 = T.setFrames fs) : Steps p.tables e below (T.setTop (mkF m pc Ls (w :: rest))) (T.setFrames fs) :=
  retOut X hx hret hn (Or.inr (Or.inr (Or.inr (Or.inr ⟨rfl, ht, hw⟩)))) hd hl
end New
end Jvm.RoadKit
namespace Jvm.Pilot.@@N@@
open Jvm Jvm.ClassFile Sem Op Lib Jvm.Free Jvm.Stand Jvm.LawKit Jvm.RoadKit Bundle Jvm.Pilot.@@N@@.Jvm.D
theorem own_ext {h0 h : Heap} (K : Keep h0 h []) : Ext h0 h := ⟨K.1, fun a c q => K.2.1 a c q nin0⟩
theorem own_pn0 : plainName "com/example/kura/kura/registry/CharacterKind" = true := by first | (simp [plainName, overriddenIn]; done) | decide +kernel
theorem own_d1_0 : decode prog_12_method_4_code 0 = .ok (.iload_n 0, 1) := by decide +kernel
theorem own_d1_1 : decode prog_12_method_4_code 1 = .ok (.lookupswitch 53 #[(97, 41), (99, 47), (110, 35)], 35) := by decide +kernel
theorem own_d1_36 : decode prog_12_method_4_code 36 = .ok (.getstatic 3, 3) := by decide +kernel
theorem own_d1_39 : decode prog_12_method_4_code 39 = .ok (.goto 29, 3) := by decide +kernel
theorem own_d1_68 : decode prog_12_method_4_code 68 = .ok (.areturn, 1) := by decide +kernel
def own_Q1_110 (Z : State) (wD : Addr) (h0 : Heap) (n0 : Nat) (v : Option Value) (h : Heap) (L : List Loc) : Prop := v = some (.ref wD) ∧ Fr n0 L ∧ h = h0
theorem own_ef1_110 (m : MethodId)  : entryFrame m #[(.int (110 : Int32))] 1 = mkF m 0 #[.val (.int (110 : Int32))] [] := by first | (simp [entryFrame, mkF, argsToLocals, Value.category]; done) | rfl
set_option maxRecDepth 65536 in
set_option maxHeartbeats 40000000 in
theorem own_rm1_110 (l : Launch) (Z : State) (a0 : Array Value) (hw : ∀ d ∈ tables_1, d.before a0 Z = true) (ws : List Jvm.Cond) (wD : Addr) (h0 : Heap) (n0 : Nat) (Z0 : n0 ≤ h0.size) (S_DIGIT : Sta Z h0 "com/example/kura/kura/registry/CharacterKind" "DIGIT" "Lcom/example/kura/kura/registry/CharacterKind;" (.ref wD)) :
    MetFree l (⟨"com/example/kura/kura/registry/CharacterKind", "of", "(C)Lcom/example/kura/kura/registry/CharacterKind;"⟩ : MethodName) (head1 (Jvm.Cond.code (⟨"com/example/kura/kura/registry/CharacterKind", "of", "(C)Lcom/example/kura/kura/registry/CharacterKind;"⟩ : MethodName) prog_12_method_4_code 1 (some (.object "com/example/kura/kura/registry/CharacterKind")) :: ws) ({ frames := 0, cells := 0, slots := 0, locals := 0 } : Room)) (fun a U => a = #[(.int (110 : Int32))] ∧ Z.Warmed39 U.vm ∧ U.heap = h0) (fun _ _ _ _ _ => True) (fun _ U o U' => ∃ v L, o = .returned v ∧ own_Q1_110 Z wD h0 n0 v U'.heap L ∧ FrameEnd U o U' L ({ frames := 0, cells := 0, slots := 0, locals := 0 } : Room).cells ({ frames := 0, cells := 0, slots := 0, locals := 0 } : Room).slots) := by
  refine MetFree.of_bodySF (plainFor_of_name own_pn0) hisR ?_
  intro p e s m args below meth c s₁ Bd hml0 hP hK
  obtain ⟨rfl, hZ, hh⟩ := hP
  have hx := Bd.exec
  have hby := Bd.bytes
  have hml : c.maxLocals = 1 := hml0
  have hown : s.vm.findClass "com/example/kura/kura/registry/CharacterKind" = some m.cls := findClass_of_methodNamed Bd.named
  have hnm := (name_of_methodNamed Bd.named Bd.method).1
  have X0 : Stand p l e ({ frames := 0, cells := 0, slots := 0, locals := 0 } : Room) s m #[(.int (110 : Int32))] below meth c s₁ [] 0 0 := Stand.of_body Bd
  have e0 : s₁.heap = h0 := by rw [← hh, Bd.state]; rfl
  have N0 := Fr.nil n0
  have pre0 : ∀ t, Steps p.tables e below (s₁.setTop (mkF m 0 #[.val (.int (110 : Int32))] [])) t → Steps p.tables e below (s₁.setTop (entryFrame m #[(.int (110 : Int32))] 1)) t := fun t k => castTop (own_ef1_110 m ) k
  obtain ⟨T1, X1, e1, st1⟩ := getS2 X0 hx hZ hown (host := "") (Or.inl (hw _ (List.mem_of_getElem? (i := 7) rfl))) Via.refl e0 S_DIGIT (g := (mkF m 36 #[.val (.int (110 : Int32))] [])) rfl (hb hby own_d1_36)
  obtain ⟨fs, hr, hrun, hended, hW, hsame⟩ := X1.leave (v := some (.ref wD)) (fun h => by rw [Bd.returns] at h; cases h)
  refine ⟨_, _, pre0 _ ?_, hrun, hended, _, _, rfl, ?_, ⟨_, rfl⟩, hW, hsame.mono (by decide) (by decide)⟩
  · show Steps p.tables e below (s₁.setTop (mkF m 0 #[.val (.int (110 : Int32))] [])) _
    refine XS.iloadN X0.here hx rfl (hb hby own_d1_0) rfl ?_
    show Steps p.tables e below (s₁.setTop (mkF m 1 #[.val (.int (110 : Int32))] [(.int (110 : Int32))])) _
    refine X0.lookupswitchHit hx (g := (mkF m 1 #[.val (.int (110 : Int32))] [(.int (110 : Int32))])) rfl rfl (hb hby own_d1_1) (by decide) (a := 110) (off := 35) (by decide) (show (0 : Int) ≤ ((1 : Nat) : Int) + 35 from by decide) _ ?_
    show Steps p.tables e below (s₁.setTop (mkF m 36 #[.val (.int (110 : Int32))] [])) _
    refine st1 _ ?_
    show Steps p.tables e below (T1.setTop (mkF m 39 #[.val (.int (110 : Int32))] [(.ref wD)])) _
    refine XS.goto X1.here hx rfl (pc0 := 39) (pc' := 68) rfl (hb hby own_d1_39) (by decide) (by decide) ?_
    show Steps p.tables e below (T1.setTop (mkF m 68 #[.val (.int (110 : Int32))] [(.ref wD)])) _
    exact retA X1 hx Bd.returns rfl rfl rfl (hb hby own_d1_68) hr
  · show own_Q1_110 Z wD h0 n0 _ T1.heap _
    rw [e1]
    exact ⟨rfl, N0, rfl⟩
theorem own_d1_42 : decode prog_12_method_4_code 42 = .ok (.getstatic 7, 3) := by decide +kernel
theorem own_d1_45 : decode prog_12_method_4_code 45 = .ok (.goto 23, 3) := by decide +kernel
def own_Q1_97 (Z : State) (wL : Addr) (h0 : Heap) (n0 : Nat) (v : Option Value) (h : Heap) (L : List Loc) : Prop := v = some (.ref wL) ∧ Fr n0 L ∧ h = h0
theorem own_ef1_97 (m : MethodId)  : entryFrame m #[(.int (97 : Int32))] 1 = mkF m 0 #[.val (.int (97 : Int32))] [] := by first | (simp [entryFrame, mkF, argsToLocals, Value.category]; done) | rfl
set_option maxRecDepth 65536 in
set_option maxHeartbeats 40000000 in
theorem own_rm1_97 (l : Launch) (Z : State) (a0 : Array Value) (hw : ∀ d ∈ tables_1, d.before a0 Z = true) (ws : List Jvm.Cond) (wL : Addr) (h0 : Heap) (n0 : Nat) (Z0 : n0 ≤ h0.size) (S_LETTER : Sta Z h0 "com/example/kura/kura/registry/CharacterKind" "LETTER" "Lcom/example/kura/kura/registry/CharacterKind;" (.ref wL)) :
    MetFree l (⟨"com/example/kura/kura/registry/CharacterKind", "of", "(C)Lcom/example/kura/kura/registry/CharacterKind;"⟩ : MethodName) (head1 (Jvm.Cond.code (⟨"com/example/kura/kura/registry/CharacterKind", "of", "(C)Lcom/example/kura/kura/registry/CharacterKind;"⟩ : MethodName) prog_12_method_4_code 1 (some (.object "com/example/kura/kura/registry/CharacterKind")) :: ws) ({ frames := 0, cells := 0, slots := 0, locals := 0 } : Room)) (fun a U => a = #[(.int (97 : Int32))] ∧ Z.Warmed39 U.vm ∧ U.heap = h0) (fun _ _ _ _ _ => True) (fun _ U o U' => ∃ v L, o = .returned v ∧ own_Q1_97 Z wL h0 n0 v U'.heap L ∧ FrameEnd U o U' L ({ frames := 0, cells := 0, slots := 0, locals := 0 } : Room).cells ({ frames := 0, cells := 0, slots := 0, locals := 0 } : Room).slots) := by
  refine MetFree.of_bodySF (plainFor_of_name own_pn0) hisR ?_
  intro p e s m args below meth c s₁ Bd hml0 hP hK
  obtain ⟨rfl, hZ, hh⟩ := hP
  have hx := Bd.exec
  have hby := Bd.bytes
  have hml : c.maxLocals = 1 := hml0
  have hown : s.vm.findClass "com/example/kura/kura/registry/CharacterKind" = some m.cls := findClass_of_methodNamed Bd.named
  have hnm := (name_of_methodNamed Bd.named Bd.method).1
  have X0 : Stand p l e ({ frames := 0, cells := 0, slots := 0, locals := 0 } : Room) s m #[(.int (97 : Int32))] below meth c s₁ [] 0 0 := Stand.of_body Bd
  have e0 : s₁.heap = h0 := by rw [← hh, Bd.state]; rfl
  have N0 := Fr.nil n0
  have pre0 : ∀ t, Steps p.tables e below (s₁.setTop (mkF m 0 #[.val (.int (97 : Int32))] [])) t → Steps p.tables e below (s₁.setTop (entryFrame m #[(.int (97 : Int32))] 1)) t := fun t k => castTop (own_ef1_97 m ) k
  obtain ⟨T1, X1, e1, st1⟩ := getS2 X0 hx hZ hown (host := "") (Or.inl (hw _ (List.mem_of_getElem? (i := 13) rfl))) Via.refl e0 S_LETTER (g := (mkF m 42 #[.val (.int (97 : Int32))] [])) rfl (hb hby own_d1_42)
  obtain ⟨fs, hr, hrun, hended, hW, hsame⟩ := X1.leave (v := some (.ref wL)) (fun h => by rw [Bd.returns] at h; cases h)
  refine ⟨_, _, pre0 _ ?_, hrun, hended, _, _, rfl, ?_, ⟨_, rfl⟩, hW, hsame.mono (by decide) (by decide)⟩
  · show Steps p.tables e below (s₁.setTop (mkF m 0 #[.val (.int (97 : Int32))] [])) _
    refine XS.iloadN X0.here hx rfl (hb hby own_d1_0) rfl ?_
    show Steps p.tables e below (s₁.setTop (mkF m 1 #[.val (.int (97 : Int32))] [(.int (97 : Int32))])) _
    refine X0.lookupswitchHit hx (g := (mkF m 1 #[.val (.int (97 : Int32))] [(.int (97 : Int32))])) rfl rfl (hb hby own_d1_1) (by decide) (a := 97) (off := 41) (by decide) (show (0 : Int) ≤ ((1 : Nat) : Int) + 41 from by decide) _ ?_
    show Steps p.tables e below (s₁.setTop (mkF m 42 #[.val (.int (97 : Int32))] [])) _
    refine st1 _ ?_
    show Steps p.tables e below (T1.setTop (mkF m 45 #[.val (.int (97 : Int32))] [(.ref wL)])) _
    refine XS.goto X1.here hx rfl (pc0 := 45) (pc' := 68) rfl (hb hby own_d1_45) (by decide) (by decide) ?_
    show Steps p.tables e below (T1.setTop (mkF m 68 #[.val (.int (97 : Int32))] [(.ref wL)])) _
    exact retA X1 hx Bd.returns rfl rfl rfl (hb hby own_d1_68) hr
  · show own_Q1_97 Z wL h0 n0 _ T1.heap _
    rw [e1]
    exact ⟨rfl, N0, rfl⟩
theorem own_d1_48 : decode prog_12_method_4_code 48 = .ok (.getstatic 10, 3) := by decide +kernel
theorem own_d1_51 : decode prog_12_method_4_code 51 = .ok (.goto 17, 3) := by decide +kernel
def own_Q1_99 (Z : State) (wX : Addr) (h0 : Heap) (n0 : Nat) (v : Option Value) (h : Heap) (L : List Loc) : Prop := v = some (.ref wX) ∧ Fr n0 L ∧ h = h0
theorem own_ef1_99 (m : MethodId)  : entryFrame m #[(.int (99 : Int32))] 1 = mkF m 0 #[.val (.int (99 : Int32))] [] := by first | (simp [entryFrame, mkF, argsToLocals, Value.category]; done) | rfl
set_option maxRecDepth 65536 in
set_option maxHeartbeats 40000000 in
theorem own_rm1_99 (l : Launch) (Z : State) (a0 : Array Value) (hw : ∀ d ∈ tables_1, d.before a0 Z = true) (ws : List Jvm.Cond) (wX : Addr) (h0 : Heap) (n0 : Nat) (Z0 : n0 ≤ h0.size) (S_DIGIT_OR_LETTER : Sta Z h0 "com/example/kura/kura/registry/CharacterKind" "DIGIT_OR_LETTER" "Lcom/example/kura/kura/registry/CharacterKind;" (.ref wX)) :
    MetFree l (⟨"com/example/kura/kura/registry/CharacterKind", "of", "(C)Lcom/example/kura/kura/registry/CharacterKind;"⟩ : MethodName) (head1 (Jvm.Cond.code (⟨"com/example/kura/kura/registry/CharacterKind", "of", "(C)Lcom/example/kura/kura/registry/CharacterKind;"⟩ : MethodName) prog_12_method_4_code 1 (some (.object "com/example/kura/kura/registry/CharacterKind")) :: ws) ({ frames := 0, cells := 0, slots := 0, locals := 0 } : Room)) (fun a U => a = #[(.int (99 : Int32))] ∧ Z.Warmed39 U.vm ∧ U.heap = h0) (fun _ _ _ _ _ => True) (fun _ U o U' => ∃ v L, o = .returned v ∧ own_Q1_99 Z wX h0 n0 v U'.heap L ∧ FrameEnd U o U' L ({ frames := 0, cells := 0, slots := 0, locals := 0 } : Room).cells ({ frames := 0, cells := 0, slots := 0, locals := 0 } : Room).slots) := by
  refine MetFree.of_bodySF (plainFor_of_name own_pn0) hisR ?_
  intro p e s m args below meth c s₁ Bd hml0 hP hK
  obtain ⟨rfl, hZ, hh⟩ := hP
  have hx := Bd.exec
  have hby := Bd.bytes
  have hml : c.maxLocals = 1 := hml0
  have hown : s.vm.findClass "com/example/kura/kura/registry/CharacterKind" = some m.cls := findClass_of_methodNamed Bd.named
  have hnm := (name_of_methodNamed Bd.named Bd.method).1
  have X0 : Stand p l e ({ frames := 0, cells := 0, slots := 0, locals := 0 } : Room) s m #[(.int (99 : Int32))] below meth c s₁ [] 0 0 := Stand.of_body Bd
  have e0 : s₁.heap = h0 := by rw [← hh, Bd.state]; rfl
  have N0 := Fr.nil n0
  have pre0 : ∀ t, Steps p.tables e below (s₁.setTop (mkF m 0 #[.val (.int (99 : Int32))] [])) t → Steps p.tables e below (s₁.setTop (entryFrame m #[(.int (99 : Int32))] 1)) t := fun t k => castTop (own_ef1_99 m ) k
  obtain ⟨T1, X1, e1, st1⟩ := getS2 X0 hx hZ hown (host := "") (Or.inl (hw _ (List.mem_of_getElem? (i := 10) rfl))) Via.refl e0 S_DIGIT_OR_LETTER (g := (mkF m 48 #[.val (.int (99 : Int32))] [])) rfl (hb hby own_d1_48)
  obtain ⟨fs, hr, hrun, hended, hW, hsame⟩ := X1.leave (v := some (.ref wX)) (fun h => by rw [Bd.returns] at h; cases h)
  refine ⟨_, _, pre0 _ ?_, hrun, hended, _, _, rfl, ?_, ⟨_, rfl⟩, hW, hsame.mono (by decide) (by decide)⟩
  · show Steps p.tables e below (s₁.setTop (mkF m 0 #[.val (.int (99 : Int32))] [])) _
    refine XS.iloadN X0.here hx rfl (hb hby own_d1_0) rfl ?_
    show Steps p.tables e below (s₁.setTop (mkF m 1 #[.val (.int (99 : Int32))] [(.int (99 : Int32))])) _
    refine X0.lookupswitchHit hx (g := (mkF m 1 #[.val (.int (99 : Int32))] [(.int (99 : Int32))])) rfl rfl (hb hby own_d1_1) (by decide) (a := 99) (off := 47) (by decide) (show (0 : Int) ≤ ((1 : Nat) : Int) + 47 from by decide) _ ?_
    show Steps p.tables e below (s₁.setTop (mkF m 48 #[.val (.int (99 : Int32))] [])) _
    refine st1 _ ?_
    show Steps p.tables e below (T1.setTop (mkF m 51 #[.val (.int (99 : Int32))] [(.ref wX)])) _
    refine XS.goto X1.here hx rfl (pc0 := 51) (pc' := 68) rfl (hb hby own_d1_51) (by decide) (by decide) ?_
    show Steps p.tables e below (T1.setTop (mkF m 68 #[.val (.int (99 : Int32))] [(.ref wX)])) _
    exact retA X1 hx Bd.returns rfl rfl rfl (hb hby own_d1_68) hr
  · show own_Q1_99 Z wX h0 n0 _ T1.heap _
    rw [e1]
    exact ⟨rfl, N0, rfl⟩
theorem own_pn1 : plainName "com/example/kura/kura/registry/CharacterKindOfPinLaw" = true := by first | (simp [plainName, overriddenIn]; done) | decide +kernel
theorem own_pd0 : parseMethodDescriptor "(C)Lcom/example/kura/kura/registry/CharacterKind;" = some ⟨[.char], some (.object "com/example/kura/kura/registry/CharacterKind")⟩ := by decide +kernel
def own_Q0 (Z : State) (xp : Int32) (wD : Addr) (wL : Addr) (wX : Addr) (h0 : Heap) (n0 : Nat) (v : Option Value) (h : Heap) (L : List Loc) : Prop := v = some (.int (1 : Int32)) ∧ Fr n0 L
theorem own_ef0 (m : MethodId) (xp : Int32) : entryFrame m #[(.int xp)] maxLocals = mkF m 0 #[.val (.int xp), .unset, .unset, .unset, .unset] [] := by first | (simp [entryFrame, mkF, argsToLocals, Value.category, maxLocals]; done) | rfl
set_option maxRecDepth 65536 in
set_option maxHeartbeats 40000000 in
theorem own_rm0 (l : Launch) (Z : State) (a0 : Array Value) (hw : ∀ d ∈ tables_1, d.before a0 Z = true) (ws : List Jvm.Cond) (xp : Int32) (wD : Addr) (wL : Addr) (wX : Addr) (h0 : Heap) (n0 : Nat) (Z0 : n0 ≤ h0.size) (S_DIGIT : Sta Z h0 "com/example/kura/kura/registry/CharacterKind" "DIGIT" "Lcom/example/kura/kura/registry/CharacterKind;" (.ref wD)) (S_LETTER : Sta Z h0 "com/example/kura/kura/registry/CharacterKind" "LETTER" "Lcom/example/kura/kura/registry/CharacterKind;" (.ref wL)) (S_DIGIT_OR_LETTER : Sta Z h0 "com/example/kura/kura/registry/CharacterKind" "DIGIT_OR_LETTER" "Lcom/example/kura/kura/registry/CharacterKind;" (.ref wX)) :
    MetFree l x (head1 (Jvm.Cond.code x code maxLocals ret :: ws) room_1) (fun a U => a = #[(.int xp)] ∧ Z.Warmed39 U.vm ∧ U.heap = h0) (fun _ _ _ _ _ => True) (fun _ U o U' => ∃ v L, o = .returned v ∧ own_Q0 Z xp wD wL wX h0 n0 v U'.heap L ∧ FrameEnd U o U' L room_1.cells room_1.slots) := by
  refine MetFree.of_bodySF (plainFor_of_name own_pn1) hisR ?_
  intro p e s m args below meth c s₁ Bd hml0 hP hK
  obtain ⟨rfl, hZ, hh⟩ := hP
  have hx := Bd.exec
  have hby := Bd.bytes
  have hml : c.maxLocals = 5 := hml0
  have hown : s.vm.findClass "com/example/kura/kura/registry/CharacterKindOfPinLaw" = some m.cls := findClass_of_methodNamed Bd.named
  have hnm := (name_of_methodNamed Bd.named Bd.method).1
  have X0 : Stand p l e room_1 s m #[(.int xp)] below meth c s₁ [] 0 0 := Stand.of_body Bd
  have e0 : s₁.heap = h0 := by rw [← hh, Bd.state]; rfl
  have N0 := Fr.nil n0
  have pre0 : ∀ t, Steps p.tables e below (s₁.setTop (mkF m 0 #[.val (.int xp), .unset, .unset, .unset, .unset] [])) t → Steps p.tables e below (s₁.setTop (entryFrame m #[(.int xp)] maxLocals)) t := fun t k => castTop (own_ef0 m xp) k
  have K0 : Keep h0 h0 [] := Keep.refl _ _
  obtain ⟨v6, hv6⟩ : ∃ w : Int32, w = ((xp &&& (2147483647 : Int32)) % (3 : Int32)) := ⟨_, rfl⟩
  have pre1 : ∀ t, Steps p.tables e below (s₁.setTop (mkF m 7 #[.val (.int xp), .val (.int v6), .unset, .unset, .unset] [])) t → Steps p.tables e below (s₁.setTop (entryFrame m #[(.int xp)] maxLocals)) t := by
    intro t k
    rw [hv6] at k
    refine pre0 _ ?_
    show Steps p.tables e below (s₁.setTop (mkF m 0 #[.val (.int xp), .unset, .unset, .unset, .unset] [])) _
    refine XS.iloadN X0.here hx rfl (hb hby at_0) rfl ?_
    show Steps p.tables e below (s₁.setTop (mkF m 1 #[.val (.int xp), .unset, .unset, .unset, .unset] [(.int xp)])) _
    refine X0.ldcInt hx hown (mvT hZ (hw _ (List.mem_of_getElem? (i := 0) rfl))) (g := (mkF m 1 #[.val (.int xp), .unset, .unset, .unset, .unset] [(.int xp)])) rfl (hb hby at_1) _ ?_
    show Steps p.tables e below (s₁.setTop (mkF m 3 #[.val (.int xp), .unset, .unset, .unset, .unset] [(.int (2147483647 : Int32)), (.int xp)])) _
    refine XS.iand X0.here hx rfl (hb hby at_3) rfl ?_
    show Steps p.tables e below (s₁.setTop (mkF m 4 #[.val (.int xp), .unset, .unset, .unset, .unset] [(.int (xp &&& (2147483647 : Int32)))])) _
    refine XS.iconst X0.here hx rfl (hb hby at_4) ?_
    show Steps p.tables e below (s₁.setTop (mkF m 5 #[.val (.int xp), .unset, .unset, .unset, .unset] [(.int (3 : Int32)), (.int (xp &&& (2147483647 : Int32)))])) _
    refine iremM X0 hx rfl (hb hby at_5) rfl (by decide) ?_
    show Steps p.tables e below (s₁.setTop (mkF m 6 #[.val (.int xp), .unset, .unset, .unset, .unset] [(.int ((xp &&& (2147483647 : Int32)) % (3 : Int32)))])) _
    refine XS.istoreN X0.here hx rfl (hb hby at_6) rfl (l' := #[.val (.int xp), .val (.int ((xp &&& (2147483647 : Int32)) % (3 : Int32))), .unset, .unset, .unset]) rfl ?_
    exact k
  have pre2 : ∀ t, Steps p.tables e below (s₁.setTop (mkF m 8 #[.val (.int xp), .val (.int v6), .unset, .unset, .unset] [(.int v6)])) t → Steps p.tables e below (s₁.setTop (entryFrame m #[(.int xp)] maxLocals)) t := by
    intro t k
    refine pre1 _ ?_
    show Steps p.tables e below (s₁.setTop (mkF m 7 #[.val (.int xp), .val (.int v6), .unset, .unset, .unset] [])) _
    refine XS.iloadN X0.here hx rfl (hb hby at_7) rfl ?_
    exact k
  by_cases hc8 : v6 = (0 : Int32)
  · obtain ⟨T3, X3, e3, st3⟩ := getS2 X0 hx hZ hown (host := "") (Or.inl (hw _ (List.mem_of_getElem? (i := 1) rfl))) Via.refl e0 S_DIGIT (g := (mkF m 33 #[.val (.int xp), .val (.int v6), .val (.int (110 : Int32)), .unset, .unset] [])) rfl (hb hby at_33)
    obtain ⟨_, _, ⟨T4, L4, k4, n4⟩, -, X4, ⟨Lc4, hQ4, l4, y4, z4⟩, st4⟩ := Jvm.LawKit.callS X3 hx (y := (⟨"com/example/kura/kura/registry/CharacterKind", "of", "(C)Lcom/example/kura/kura/registry/CharacterKind;"⟩ : MethodName)) hown (mvT hZ (hw _ (List.mem_of_getElem? (i := 4) rfl))) (mvT hZ (hw _ (List.mem_of_getElem? (i := 5) rfl))) (mvT hZ (hw _ (List.mem_of_getElem? (i := 2) rfl))) (mvT hZ (hw _ (List.mem_of_getElem? (i := 6) rfl))) (by decide) (backOf (W := 0) (own_rm1_110 l Z a0 hw [] wD h0 n0 Z0 S_DIGIT) hZ (hw _ (List.mem_of_getElem? (i := 6) rfl)) (hw _ (List.mem_of_getElem? (i := 2) rfl)) (by decide) (by decide)) (g := (mkF m 55 #[.val (.int xp), .val (.int v6), .val (.int (110 : Int32)), .val (.ref wD), .unset] [(.int (110 : Int32))])) rfl (by rw [hml]; rfl) (argsL := [(.int (110 : Int32))]) (rest := []) (lenOf own_pd0 rfl) rfl (by show 2 * 0 + _ ≤ _; exact Nat.le_of_eq rfl) (hb hby at_55) (fun _ _ => ⟨rfl, e3, (by decide : 0 + 0 ≤ _), (by decide : 0 + 0 ≤ _)⟩)
    dsimp only [Pt.U, Pt.locs, Pt.cells, Pt.slots] at X4 l4 y4 z4 st4 hQ4
    subst l4 y4 z4
    obtain ⟨rfl, N4q, eh4⟩ := hQ4
    have N4 := Fr.app N0 N4q
    obtain ⟨fs, hr, hrun, hended, hW, hsame⟩ := X4.leave (v := some (.int (1 : Int32))) (fun h => by rw [Bd.returns] at h; cases h)
    refine ⟨_, _, pre2 _ ?_, hrun, hended, _, _, rfl, ?_, ⟨_, rfl⟩, hW, hsame.mono (by decide) (by decide)⟩
    · show Steps p.tables e below (s₁.setTop (mkF m 8 #[.val (.int xp), .val (.int v6), .unset, .unset, .unset] [(.int v6)])) _
      refine XS.ifNo X0.here hx rfl (hb hby at_8) rfl ((if0 _ _).trans (teq hc8).2) ?_
      show Steps p.tables e below (s₁.setTop (mkF m 11 #[.val (.int xp), .val (.int v6), .unset, .unset, .unset] [])) _
      refine XS.bipush X0.here hx rfl (hb hby at_11) ?_
      show Steps p.tables e below (s₁.setTop (mkF m 13 #[.val (.int xp), .val (.int v6), .unset, .unset, .unset] [(.int (110 : Int32))])) _
      refine XS.goto X0.here hx rfl (pc0 := 13) (pc' := 28) rfl (hb hby at_13) (by decide) (by decide) ?_
      show Steps p.tables e below (s₁.setTop (mkF m 28 #[.val (.int xp), .val (.int v6), .unset, .unset, .unset] [(.int (110 : Int32))])) _
      refine XS.istoreN X0.here hx rfl (hb hby at_28) rfl (l' := #[.val (.int xp), .val (.int v6), .val (.int (110 : Int32)), .unset, .unset]) rfl ?_
      show Steps p.tables e below (s₁.setTop (mkF m 29 #[.val (.int xp), .val (.int v6), .val (.int (110 : Int32)), .unset, .unset] [])) _
      refine XS.iloadN X0.here hx rfl (hb hby at_29) rfl ?_
      show Steps p.tables e below (s₁.setTop (mkF m 30 #[.val (.int xp), .val (.int v6), .val (.int (110 : Int32)), .unset, .unset] [(.int v6)])) _
      refine XS.ifNo X0.here hx rfl (hb hby at_30) rfl ((if0 _ _).trans (teq hc8).2) ?_
      show Steps p.tables e below (s₁.setTop (mkF m 33 #[.val (.int xp), .val (.int v6), .val (.int (110 : Int32)), .unset, .unset] [])) _
      refine st3 _ ?_
      show Steps p.tables e below (T3.setTop (mkF m 36 #[.val (.int xp), .val (.int v6), .val (.int (110 : Int32)), .unset, .unset] [(.ref wD)])) _
      refine XS.goto X3.here hx rfl (pc0 := 36) (pc' := 53) rfl (hb hby at_36) (by decide) (by decide) ?_
      show Steps p.tables e below (T3.setTop (mkF m 53 #[.val (.int xp), .val (.int v6), .val (.int (110 : Int32)), .unset, .unset] [(.ref wD)])) _
      refine XS.astoreN X3.here hx rfl (hb hby at_53) rfl rfl (l' := #[.val (.int xp), .val (.int v6), .val (.int (110 : Int32)), .val (.ref wD), .unset]) rfl ?_
      show Steps p.tables e below (T3.setTop (mkF m 54 #[.val (.int xp), .val (.int v6), .val (.int (110 : Int32)), .val (.ref wD), .unset] [])) _
      refine XS.iloadN X3.here hx rfl (hb hby at_54) rfl ?_
      show Steps p.tables e below (T3.setTop (mkF m 55 #[.val (.int xp), .val (.int v6), .val (.int (110 : Int32)), .val (.ref wD), .unset] [(.int (110 : Int32))])) _
      refine st4 _ ?_
      show Steps p.tables e below (T4.setTop (mkF m 58 #[.val (.int xp), .val (.int v6), .val (.int (110 : Int32)), .val (.ref wD), .unset] [(.ref wD)])) _
      refine XS.astore X4.here hx rfl (hb hby at_58) rfl rfl (l' := #[.val (.int xp), .val (.int v6), .val (.int (110 : Int32)), .val (.ref wD), .val (.ref wD)]) rfl ?_
      show Steps p.tables e below (T4.setTop (mkF m 60 #[.val (.int xp), .val (.int v6), .val (.int (110 : Int32)), .val (.ref wD), .val (.ref wD)] [])) _
      refine XS.aload X4.here hx rfl (hb hby at_60) rfl rfl ?_
      show Steps p.tables e below (T4.setTop (mkF m 62 #[.val (.int xp), .val (.int v6), .val (.int (110 : Int32)), .val (.ref wD), .val (.ref wD)] [(.ref wD)])) _
      refine XS.aloadN X4.here hx rfl (hb hby at_62) rfl rfl ?_
      show Steps p.tables e below (T4.setTop (mkF m 63 #[.val (.int xp), .val (.int v6), .val (.int (110 : Int32)), .val (.ref wD), .val (.ref wD)] [(.ref wD), (.ref wD)])) _
      refine Jvm.RoadKit.acmp (g := (mkF m 63 #[.val (.int xp), .val (.int v6), .val (.int (110 : Int32)), .val (.ref wD), .val (.ref wD)] [(.ref wD), (.ref wD)])) X4 hx rfl rfl rfl (pc0 := 63) (pc' := 66) (same := true) rfl (hb hby at_63) rfl (decide_eq_true rfl) (by decide) (by decide) ?_
      show Steps p.tables e below (T4.setTop (mkF m 66 #[.val (.int xp), .val (.int v6), .val (.int (110 : Int32)), .val (.ref wD), .val (.ref wD)] [])) _
      refine XS.iconst X4.here hx rfl (hb hby at_66) ?_
      show Steps p.tables e below (T4.setTop (mkF m 67 #[.val (.int xp), .val (.int v6), .val (.int (110 : Int32)), .val (.ref wD), .val (.ref wD)] [(.int (1 : Int32))])) _
      refine XS.goto X4.here hx rfl (pc0 := 67) (pc' := 71) rfl (hb hby at_67) (by decide) (by decide) ?_
      show Steps p.tables e below (T4.setTop (mkF m 71 #[.val (.int xp), .val (.int v6), .val (.int (110 : Int32)), .val (.ref wD), .val (.ref wD)] [(.int (1 : Int32))])) _
      exact retN X4 hx (t := .boolean) Bd.returns (by simp) (hb hby at_71) hr
    · show own_Q0 Z xp wD wL wX h0 n0 _ T4.heap _
      rw [eh4]
      exact ⟨rfl, N4⟩
  · have pre5 : ∀ t, Steps p.tables e below (s₁.setTop (mkF m 18 #[.val (.int xp), .val (.int v6), .unset, .unset, .unset] [(.int (1 : Int32)), (.int v6)])) t → Steps p.tables e below (s₁.setTop (entryFrame m #[(.int xp)] maxLocals)) t := by
      intro t k
      refine pre2 _ ?_
      show Steps p.tables e below (s₁.setTop (mkF m 8 #[.val (.int xp), .val (.int v6), .unset, .unset, .unset] [(.int v6)])) _
      refine XS.ifYes X0.here hx rfl (pc0 := 8) (pc' := 16) rfl (hb hby at_8) rfl ((if0 _ _).trans (feq hc8).2) (by decide) (by decide) ?_
      show Steps p.tables e below (s₁.setTop (mkF m 16 #[.val (.int xp), .val (.int v6), .unset, .unset, .unset] [])) _
      refine XS.iloadN X0.here hx rfl (hb hby at_16) rfl ?_
      show Steps p.tables e below (s₁.setTop (mkF m 17 #[.val (.int xp), .val (.int v6), .unset, .unset, .unset] [(.int v6)])) _
      refine XS.iconst X0.here hx rfl (hb hby at_17) ?_
      exact k
    by_cases hc18 : v6 = (1 : Int32)
    · obtain ⟨T6, X6, e6, st6⟩ := getS2 X0 hx hZ hown (host := "") (Or.inl (hw _ (List.mem_of_getElem? (i := 11) rfl))) Via.refl e0 S_LETTER (g := (mkF m 44 #[.val (.int xp), .val (.int v6), .val (.int (97 : Int32)), .unset, .unset] [])) rfl (hb hby at_44)
      obtain ⟨_, _, ⟨T7, L7, k7, n7⟩, -, X7, ⟨Lc7, hQ7, l7, y7, z7⟩, st7⟩ := Jvm.LawKit.callS X6 hx (y := (⟨"com/example/kura/kura/registry/CharacterKind", "of", "(C)Lcom/example/kura/kura/registry/CharacterKind;"⟩ : MethodName)) hown (mvT hZ (hw _ (List.mem_of_getElem? (i := 4) rfl))) (mvT hZ (hw _ (List.mem_of_getElem? (i := 5) rfl))) (mvT hZ (hw _ (List.mem_of_getElem? (i := 2) rfl))) (mvT hZ (hw _ (List.mem_of_getElem? (i := 6) rfl))) (by decide) (backOf (W := 0) (own_rm1_97 l Z a0 hw [] wL h0 n0 Z0 S_LETTER) hZ (hw _ (List.mem_of_getElem? (i := 6) rfl)) (hw _ (List.mem_of_getElem? (i := 2) rfl)) (by decide) (by decide)) (g := (mkF m 55 #[.val (.int xp), .val (.int v6), .val (.int (97 : Int32)), .val (.ref wL), .unset] [(.int (97 : Int32))])) rfl (by rw [hml]; rfl) (argsL := [(.int (97 : Int32))]) (rest := []) (lenOf own_pd0 rfl) rfl (by show 2 * 0 + _ ≤ _; exact Nat.le_of_eq rfl) (hb hby at_55) (fun _ _ => ⟨rfl, e6, (by decide : 0 + 0 ≤ _), (by decide : 0 + 0 ≤ _)⟩)
      dsimp only [Pt.U, Pt.locs, Pt.cells, Pt.slots] at X7 l7 y7 z7 st7 hQ7
      subst l7 y7 z7
      obtain ⟨rfl, N7q, eh7⟩ := hQ7
      have N7 := Fr.app N0 N7q
      obtain ⟨fs, hr, hrun, hended, hW, hsame⟩ := X7.leave (v := some (.int (1 : Int32))) (fun h => by rw [Bd.returns] at h; cases h)
      refine ⟨_, _, pre5 _ ?_, hrun, hended, _, _, rfl, ?_, ⟨_, rfl⟩, hW, hsame.mono (by decide) (by decide)⟩
      · show Steps p.tables e below (s₁.setTop (mkF m 18 #[.val (.int xp), .val (.int v6), .unset, .unset, .unset] [(.int (1 : Int32)), (.int v6)])) _
        refine XS.icmpNo X0.here hx rfl (hb hby at_18) rfl (teq hc18).2 ?_
        show Steps p.tables e below (s₁.setTop (mkF m 21 #[.val (.int xp), .val (.int v6), .unset, .unset, .unset] [])) _
        refine XS.bipush X0.here hx rfl (hb hby at_21) ?_
        show Steps p.tables e below (s₁.setTop (mkF m 23 #[.val (.int xp), .val (.int v6), .unset, .unset, .unset] [(.int (97 : Int32))])) _
        refine XS.goto X0.here hx rfl (pc0 := 23) (pc' := 28) rfl (hb hby at_23) (by decide) (by decide) ?_
        show Steps p.tables e below (s₁.setTop (mkF m 28 #[.val (.int xp), .val (.int v6), .unset, .unset, .unset] [(.int (97 : Int32))])) _
        refine XS.istoreN X0.here hx rfl (hb hby at_28) rfl (l' := #[.val (.int xp), .val (.int v6), .val (.int (97 : Int32)), .unset, .unset]) rfl ?_
        show Steps p.tables e below (s₁.setTop (mkF m 29 #[.val (.int xp), .val (.int v6), .val (.int (97 : Int32)), .unset, .unset] [])) _
        refine XS.iloadN X0.here hx rfl (hb hby at_29) rfl ?_
        show Steps p.tables e below (s₁.setTop (mkF m 30 #[.val (.int xp), .val (.int v6), .val (.int (97 : Int32)), .unset, .unset] [(.int v6)])) _
        refine XS.ifYes X0.here hx rfl (pc0 := 30) (pc' := 39) rfl (hb hby at_30) rfl ((if0 _ _).trans (feq hc8).2) (by decide) (by decide) ?_
        show Steps p.tables e below (s₁.setTop (mkF m 39 #[.val (.int xp), .val (.int v6), .val (.int (97 : Int32)), .unset, .unset] [])) _
        refine XS.iloadN X0.here hx rfl (hb hby at_39) rfl ?_
        show Steps p.tables e below (s₁.setTop (mkF m 40 #[.val (.int xp), .val (.int v6), .val (.int (97 : Int32)), .unset, .unset] [(.int v6)])) _
        refine XS.iconst X0.here hx rfl (hb hby at_40) ?_
        show Steps p.tables e below (s₁.setTop (mkF m 41 #[.val (.int xp), .val (.int v6), .val (.int (97 : Int32)), .unset, .unset] [(.int (1 : Int32)), (.int v6)])) _
        refine XS.icmpNo X0.here hx rfl (hb hby at_41) rfl (teq hc18).2 ?_
        show Steps p.tables e below (s₁.setTop (mkF m 44 #[.val (.int xp), .val (.int v6), .val (.int (97 : Int32)), .unset, .unset] [])) _
        refine st6 _ ?_
        show Steps p.tables e below (T6.setTop (mkF m 47 #[.val (.int xp), .val (.int v6), .val (.int (97 : Int32)), .unset, .unset] [(.ref wL)])) _
        refine XS.goto X6.here hx rfl (pc0 := 47) (pc' := 53) rfl (hb hby at_47) (by decide) (by decide) ?_
        show Steps p.tables e below (T6.setTop (mkF m 53 #[.val (.int xp), .val (.int v6), .val (.int (97 : Int32)), .unset, .unset] [(.ref wL)])) _
        refine XS.astoreN X6.here hx rfl (hb hby at_53) rfl rfl (l' := #[.val (.int xp), .val (.int v6), .val (.int (97 : Int32)), .val (.ref wL), .unset]) rfl ?_
        show Steps p.tables e below (T6.setTop (mkF m 54 #[.val (.int xp), .val (.int v6), .val (.int (97 : Int32)), .val (.ref wL), .unset] [])) _
        refine XS.iloadN X6.here hx rfl (hb hby at_54) rfl ?_
        show Steps p.tables e below (T6.setTop (mkF m 55 #[.val (.int xp), .val (.int v6), .val (.int (97 : Int32)), .val (.ref wL), .unset] [(.int (97 : Int32))])) _
        refine st7 _ ?_
        show Steps p.tables e below (T7.setTop (mkF m 58 #[.val (.int xp), .val (.int v6), .val (.int (97 : Int32)), .val (.ref wL), .unset] [(.ref wL)])) _
        refine XS.astore X7.here hx rfl (hb hby at_58) rfl rfl (l' := #[.val (.int xp), .val (.int v6), .val (.int (97 : Int32)), .val (.ref wL), .val (.ref wL)]) rfl ?_
        show Steps p.tables e below (T7.setTop (mkF m 60 #[.val (.int xp), .val (.int v6), .val (.int (97 : Int32)), .val (.ref wL), .val (.ref wL)] [])) _
        refine XS.aload X7.here hx rfl (hb hby at_60) rfl rfl ?_
        show Steps p.tables e below (T7.setTop (mkF m 62 #[.val (.int xp), .val (.int v6), .val (.int (97 : Int32)), .val (.ref wL), .val (.ref wL)] [(.ref wL)])) _
        refine XS.aloadN X7.here hx rfl (hb hby at_62) rfl rfl ?_
        show Steps p.tables e below (T7.setTop (mkF m 63 #[.val (.int xp), .val (.int v6), .val (.int (97 : Int32)), .val (.ref wL), .val (.ref wL)] [(.ref wL), (.ref wL)])) _
        refine Jvm.RoadKit.acmp (g := (mkF m 63 #[.val (.int xp), .val (.int v6), .val (.int (97 : Int32)), .val (.ref wL), .val (.ref wL)] [(.ref wL), (.ref wL)])) X7 hx rfl rfl rfl (pc0 := 63) (pc' := 66) (same := true) rfl (hb hby at_63) rfl (decide_eq_true rfl) (by decide) (by decide) ?_
        show Steps p.tables e below (T7.setTop (mkF m 66 #[.val (.int xp), .val (.int v6), .val (.int (97 : Int32)), .val (.ref wL), .val (.ref wL)] [])) _
        refine XS.iconst X7.here hx rfl (hb hby at_66) ?_
        show Steps p.tables e below (T7.setTop (mkF m 67 #[.val (.int xp), .val (.int v6), .val (.int (97 : Int32)), .val (.ref wL), .val (.ref wL)] [(.int (1 : Int32))])) _
        refine XS.goto X7.here hx rfl (pc0 := 67) (pc' := 71) rfl (hb hby at_67) (by decide) (by decide) ?_
        show Steps p.tables e below (T7.setTop (mkF m 71 #[.val (.int xp), .val (.int v6), .val (.int (97 : Int32)), .val (.ref wL), .val (.ref wL)] [(.int (1 : Int32))])) _
        exact retN X7 hx (t := .boolean) Bd.returns (by simp) (hb hby at_71) hr
      · show own_Q0 Z xp wD wL wX h0 n0 _ T7.heap _
        rw [eh7]
        exact ⟨rfl, N7⟩
    · obtain ⟨T8, X8, e8, st8⟩ := getS2 X0 hx hZ hown (host := "") (Or.inl (hw _ (List.mem_of_getElem? (i := 8) rfl))) Via.refl e0 S_DIGIT_OR_LETTER (g := (mkF m 50 #[.val (.int xp), .val (.int v6), .val (.int (99 : Int32)), .unset, .unset] [])) rfl (hb hby at_50)
      obtain ⟨_, _, ⟨T9, L9, k9, n9⟩, -, X9, ⟨Lc9, hQ9, l9, y9, z9⟩, st9⟩ := Jvm.LawKit.callS X8 hx (y := (⟨"com/example/kura/kura/registry/CharacterKind", "of", "(C)Lcom/example/kura/kura/registry/CharacterKind;"⟩ : MethodName)) hown (mvT hZ (hw _ (List.mem_of_getElem? (i := 4) rfl))) (mvT hZ (hw _ (List.mem_of_getElem? (i := 5) rfl))) (mvT hZ (hw _ (List.mem_of_getElem? (i := 2) rfl))) (mvT hZ (hw _ (List.mem_of_getElem? (i := 6) rfl))) (by decide) (backOf (W := 0) (own_rm1_99 l Z a0 hw [] wX h0 n0 Z0 S_DIGIT_OR_LETTER) hZ (hw _ (List.mem_of_getElem? (i := 6) rfl)) (hw _ (List.mem_of_getElem? (i := 2) rfl)) (by decide) (by decide)) (g := (mkF m 55 #[.val (.int xp), .val (.int v6), .val (.int (99 : Int32)), .val (.ref wX), .unset] [(.int (99 : Int32))])) rfl (by rw [hml]; rfl) (argsL := [(.int (99 : Int32))]) (rest := []) (lenOf own_pd0 rfl) rfl (by show 2 * 0 + _ ≤ _; exact Nat.le_of_eq rfl) (hb hby at_55) (fun _ _ => ⟨rfl, e8, (by decide : 0 + 0 ≤ _), (by decide : 0 + 0 ≤ _)⟩)
      dsimp only [Pt.U, Pt.locs, Pt.cells, Pt.slots] at X9 l9 y9 z9 st9 hQ9
      subst l9 y9 z9
      obtain ⟨rfl, N9q, eh9⟩ := hQ9
      have N9 := Fr.app N0 N9q
      obtain ⟨fs, hr, hrun, hended, hW, hsame⟩ := X9.leave (v := some (.int (1 : Int32))) (fun h => by rw [Bd.returns] at h; cases h)
      refine ⟨_, _, pre5 _ ?_, hrun, hended, _, _, rfl, ?_, ⟨_, rfl⟩, hW, hsame.mono (by decide) (by decide)⟩
      · show Steps p.tables e below (s₁.setTop (mkF m 18 #[.val (.int xp), .val (.int v6), .unset, .unset, .unset] [(.int (1 : Int32)), (.int v6)])) _
        refine XS.icmpYes X0.here hx rfl (pc0 := 18) (pc' := 26) rfl (hb hby at_18) rfl (feq hc18).2 (by decide) (by decide) ?_
        show Steps p.tables e below (s₁.setTop (mkF m 26 #[.val (.int xp), .val (.int v6), .unset, .unset, .unset] [])) _
        refine XS.bipush X0.here hx rfl (hb hby at_26) ?_
        show Steps p.tables e below (s₁.setTop (mkF m 28 #[.val (.int xp), .val (.int v6), .unset, .unset, .unset] [(.int (99 : Int32))])) _
        refine XS.istoreN X0.here hx rfl (hb hby at_28) rfl (l' := #[.val (.int xp), .val (.int v6), .val (.int (99 : Int32)), .unset, .unset]) rfl ?_
        show Steps p.tables e below (s₁.setTop (mkF m 29 #[.val (.int xp), .val (.int v6), .val (.int (99 : Int32)), .unset, .unset] [])) _
        refine XS.iloadN X0.here hx rfl (hb hby at_29) rfl ?_
        show Steps p.tables e below (s₁.setTop (mkF m 30 #[.val (.int xp), .val (.int v6), .val (.int (99 : Int32)), .unset, .unset] [(.int v6)])) _
        refine XS.ifYes X0.here hx rfl (pc0 := 30) (pc' := 39) rfl (hb hby at_30) rfl ((if0 _ _).trans (feq hc8).2) (by decide) (by decide) ?_
        show Steps p.tables e below (s₁.setTop (mkF m 39 #[.val (.int xp), .val (.int v6), .val (.int (99 : Int32)), .unset, .unset] [])) _
        refine XS.iloadN X0.here hx rfl (hb hby at_39) rfl ?_
        show Steps p.tables e below (s₁.setTop (mkF m 40 #[.val (.int xp), .val (.int v6), .val (.int (99 : Int32)), .unset, .unset] [(.int v6)])) _
        refine XS.iconst X0.here hx rfl (hb hby at_40) ?_
        show Steps p.tables e below (s₁.setTop (mkF m 41 #[.val (.int xp), .val (.int v6), .val (.int (99 : Int32)), .unset, .unset] [(.int (1 : Int32)), (.int v6)])) _
        refine XS.icmpYes X0.here hx rfl (pc0 := 41) (pc' := 50) rfl (hb hby at_41) rfl (feq hc18).2 (by decide) (by decide) ?_
        show Steps p.tables e below (s₁.setTop (mkF m 50 #[.val (.int xp), .val (.int v6), .val (.int (99 : Int32)), .unset, .unset] [])) _
        refine st8 _ ?_
        show Steps p.tables e below (T8.setTop (mkF m 53 #[.val (.int xp), .val (.int v6), .val (.int (99 : Int32)), .unset, .unset] [(.ref wX)])) _
        refine XS.astoreN X8.here hx rfl (hb hby at_53) rfl rfl (l' := #[.val (.int xp), .val (.int v6), .val (.int (99 : Int32)), .val (.ref wX), .unset]) rfl ?_
        show Steps p.tables e below (T8.setTop (mkF m 54 #[.val (.int xp), .val (.int v6), .val (.int (99 : Int32)), .val (.ref wX), .unset] [])) _
        refine XS.iloadN X8.here hx rfl (hb hby at_54) rfl ?_
        show Steps p.tables e below (T8.setTop (mkF m 55 #[.val (.int xp), .val (.int v6), .val (.int (99 : Int32)), .val (.ref wX), .unset] [(.int (99 : Int32))])) _
        refine st9 _ ?_
        show Steps p.tables e below (T9.setTop (mkF m 58 #[.val (.int xp), .val (.int v6), .val (.int (99 : Int32)), .val (.ref wX), .unset] [(.ref wX)])) _
        refine XS.astore X9.here hx rfl (hb hby at_58) rfl rfl (l' := #[.val (.int xp), .val (.int v6), .val (.int (99 : Int32)), .val (.ref wX), .val (.ref wX)]) rfl ?_
        show Steps p.tables e below (T9.setTop (mkF m 60 #[.val (.int xp), .val (.int v6), .val (.int (99 : Int32)), .val (.ref wX), .val (.ref wX)] [])) _
        refine XS.aload X9.here hx rfl (hb hby at_60) rfl rfl ?_
        show Steps p.tables e below (T9.setTop (mkF m 62 #[.val (.int xp), .val (.int v6), .val (.int (99 : Int32)), .val (.ref wX), .val (.ref wX)] [(.ref wX)])) _
        refine XS.aloadN X9.here hx rfl (hb hby at_62) rfl rfl ?_
        show Steps p.tables e below (T9.setTop (mkF m 63 #[.val (.int xp), .val (.int v6), .val (.int (99 : Int32)), .val (.ref wX), .val (.ref wX)] [(.ref wX), (.ref wX)])) _
        refine Jvm.RoadKit.acmp (g := (mkF m 63 #[.val (.int xp), .val (.int v6), .val (.int (99 : Int32)), .val (.ref wX), .val (.ref wX)] [(.ref wX), (.ref wX)])) X9 hx rfl rfl rfl (pc0 := 63) (pc' := 66) (same := true) rfl (hb hby at_63) rfl (decide_eq_true rfl) (by decide) (by decide) ?_
        show Steps p.tables e below (T9.setTop (mkF m 66 #[.val (.int xp), .val (.int v6), .val (.int (99 : Int32)), .val (.ref wX), .val (.ref wX)] [])) _
        refine XS.iconst X9.here hx rfl (hb hby at_66) ?_
        show Steps p.tables e below (T9.setTop (mkF m 67 #[.val (.int xp), .val (.int v6), .val (.int (99 : Int32)), .val (.ref wX), .val (.ref wX)] [(.int (1 : Int32))])) _
        refine XS.goto X9.here hx rfl (pc0 := 67) (pc' := 71) rfl (hb hby at_67) (by decide) (by decide) ?_
        show Steps p.tables e below (T9.setTop (mkF m 71 #[.val (.int xp), .val (.int v6), .val (.int (99 : Int32)), .val (.ref wX), .val (.ref wX)] [(.int (1 : Int32))])) _
        exact retN X9 hx (t := .boolean) Bd.returns (by simp) (hb hby at_71) hr
      · show own_Q0 Z xp wD wL wX h0 n0 _ T9.heap _
        rw [eh9]
        exact ⟨rfl, N9⟩
set_option maxRecDepth 65536 in
set_option maxHeartbeats 40000000 in
theorem own_comes_1 {Post : Tables → Env → Array Value → State → Outcome → State → Prop} (hpost : ∀ tb e args s v u, (limb_1_1.after args s (.returned v) u = true ∧ limb_1_2.after args s (.returned v) u = true ∧ True) → FrameEnd s (.returned v) u (Jvm.fieldLocs frame_1_writes args s ++ Jvm.arrayLocs frame_1_arrays args s ++ Jvm.staticLocs frame_1_statics s) 0 0 → Post tb e args s (.returned v) u) :
    ArmFor flags0 classFile x code maxLocals ret World_1 tables_1 room_1 Calls_1 rest_1 Pre_1 Post := by
  intro l hfl _ _ p e ha hc hk s m args below hf hA hF happ hP
  obtain ⟨hcalls, hrest, hpre⟩ := hP
  obtain ⟨-, -, -, hnamed, -, -, -, hat⟩ := (Spec.applies_iff hf).mp happ
  obtain ⟨hg, hn⟩ := and_e (Cond.before_iff.mp (show (Jvm.Cond.and given_1 narrow_1).before args s = true from hpre))
  obtain ⟨gg1, gg2⟩ := and_e hg
  obtain ⟨w0, rfl⟩ : ∃ w0 : Value, args = #[w0] := by
    have hs : args.size = 1 := by simpa [Cond.value, given_1] using gg1
    obtain ⟨L⟩ := args
    match L, hs with
    | [w0], _ => exact ⟨w0, rfl⟩
  have hw := fun d (hd : d ∈ tables_1) => atoms_spec (ws := Jvm.Cond.code x code maxLocals ret :: tables_1) hat d (List.mem_cons_of_mem _ hd)
  have hfit : Fit s := fun {y c} hc i hi => by
    obtain ⟨ha, rfl⟩ := Array.getElem?_eq_some_iff.mp hc
    have q := List.all_eq_true.mp ((Array.all_eq_true_iff_forall_mem.mp hF) _ (Array.getElem_mem ha)) i (List.mem_range.mpr hi)
    simpa [Array.getElem?_eq_getElem hi] using q
  obtain ⟨i0, ei0⟩ := is_v gg2
  obtain rfl : w0 = (.int i0) := Option.some.inj ei0
  obtain ⟨n1, n23⟩ := and_e hn
  obtain ⟨n2, n3⟩ := and_e n23
  obtain ⟨wD, evwD⟩ := exa_v n1
  have SwD := Sta.start evwD (Or.inr ⟨(hw _ (List.mem_of_getElem? (i := 2) rfl)), (hw _ (List.mem_of_getElem? (i := 3) rfl))⟩)
  obtain ⟨wX, evwX⟩ := exa_v n2
  have SwX := Sta.start evwX (Or.inr ⟨(hw _ (List.mem_of_getElem? (i := 2) rfl)), (hw _ (List.mem_of_getElem? (i := 9) rfl))⟩)
  obtain ⟨wL, evwL⟩ := exa_v n3
  have SwL := Sta.start evwL (Or.inr ⟨(hw _ (List.mem_of_getElem? (i := 2) rfl)), (hw _ (List.mem_of_getElem? (i := 12) rfl))⟩)
  obtain ⟨n, o, h1, h2, h3, _, L, rfl, ⟨rfl, N⟩, hq⟩ := own_rm0 l s _ hw tables_1 i0 wD wL wX s.heap s.heap.size (Nat.le_refl _) SwD SwL SwX p e ha hc hk s m _ below hf ((Spec.applies_iff_loose hf).mp happ).1 ⟨rfl, State.Warmed39.refl s, rfl⟩ trivial
  refine ⟨n, _, h1, h2, h3, hpost _ _ _ _ _ _ ⟨Cond.after_iff.mpr rfl, Cond.after_iff.mpr (eq_i res_at (Term.int_eval (1)) rfl), trivial⟩ ⟨hq.1, hq.2.1, (hq.2.2.sift fun y hy => Or.inr (N y hy)).mono (by decide) (by decide)⟩⟩
theorem main_1_1 : Claimed_1_1 := own_comes_1 fun _ _ _ _ _ _ h hF => ⟨h.1, hF⟩
theorem main_1_2 : Claimed_1_2 := own_comes_1 fun _ _ _ _ _ _ h hF => ⟨h.2.1, hF⟩
end Jvm.Pilot.@@N@@
namespace Jvm.Pilot.@@N@@
open Jvm Jvm.ClassFile Sem Op Lib Jvm.Free Jvm.Stand Jvm.Pilot.@@N@@.Jvm.D
/-! MADE BY PROGRAM (witnessworld.py) out of the Statement's table words and the real class files: 12 classes; the members and pool entries that the words name. The judged class is class 1, her method 1. -/
namespace start1
open Jvm.ClassFile
def u (s : String) : CpInfo := .utf8 (stringToUtf16 s)
/-- a pool by its gaps: so many unusable entries, then the entry; so many at the end -/
def gap : Nat → List CpInfo → List CpInfo
  | 0, r => r
  | n + 1, r => .unusable :: gap n r
def poolList (es : List (Nat × CpInfo)) (last : Nat) : List CpInfo := es.foldr (fun e r => gap e.1 (e.2 :: r)) (gap last [])
def pool (es : List (Nat × CpInfo)) (last : Nat) : Array CpInfo := ⟨poolList es last⟩
def fileOf (pool : Array CpInfo) (this : Nat) (attrs : Array Attribute := #[]) (ms : Array MethodInfo := #[]) (fl : Nat := 33) (sup : Nat := 0) (ifs : Array Nat := #[]) (fds : Array FieldInfo := #[]) : ClassFile where
  minorVersion := 0
  majorVersion := 65
  constantPool := pool
  accessFlags := fl
  thisClass := this
  superClass := sup
  interfaces := ifs
  fields := fds
  methods := ms
  attributes := attrs
def plain (name : String) (sup : Option ClassId) : Class where
  name := name
  kind := .ordinary
  loader := none
  accessFlags := 33
  super := sup
  interfaces := #[]
  cf := none
  fields := #[]
  methods := #[]
  instanceTypes := #[]
  staticTypes := #[]
  resolved := #[]
  callSites := []
  init := .initialized
  statics := none
  mirror := none

def pool0 : Array CpInfo := pool [(5, u "<init>"), (0, u "()V"), (1, .class_ 10), (1, u "java/lang/Object")] 113

def k0m0 : Method := { name := "<init>", desc := "()V", sig := { parameters := [], returnType := none }, accessFlags := 1, code := none }
/-- java/lang/Object -/
def k0 : Class := { plain "java/lang/Object" none with
  accessFlags := 33
  interfaces := #[]
  cf := some (fileOf pool0 8 #[] #[{ accessFlags := 1, nameIndex := 5, descriptorIndex := 6, attributes := #[] }] 33 0 #[] #[])
  fields := #[]
  methods := #[k0m0]
  instanceTypes := #[]
  staticTypes := #[]
  resolved := Array.replicate 124 none
  statics := none }

def pool1 : Array CpInfo := pool [(2, .class_ 4), (1, u "java/lang/Object"), (0, u "<init>"), (0, u "()V"), (0, .integer 2147483647), (0, .fieldref 9 10), (0, .class_ 11), (0, .nameAndType 12 13), (0, u "com/example/kura/kura/registry/CharacterKind"), (0, u "DIGIT"), (0, u "Lcom/example/kura/kura/registry/CharacterKind;"), (0, .fieldref 9 15), (0, .nameAndType 16 13), (0, u "LETTER"), (0, .fieldref 9 18), (0, .nameAndType 19 13), (0, u "DIGIT_OR_LETTER"), (0, .methodref 9 21), (0, .nameAndType 22 23), (0, u "of"), (0, u "(C)Lcom/example/kura/kura/registry/CharacterKind;"), (0, .class_ 25), (0, u "com/example/kura/kura/registry/CharacterKindOfPinLaw"), (2, u "law"), (0, u "(I)Z")] 3

def k1m0 : Method := { name := "<init>", desc := "()V", sig := { parameters := [], returnType := none }, accessFlags := 2, code := none }
def k1c1 : Code := { maxStack := 2, maxLocals := 5, code := code, exceptionTable := #[], attributes := #[] }
def k1m1 : Method := { name := "law", desc := "(I)Z", sig := { parameters := [.int], returnType := some .boolean }, accessFlags := 9, code := some k1c1 }
/-- com/example/kura/kura/registry/CharacterKindOfPinLaw -/
def k1 : Class := { plain "com/example/kura/kura/registry/CharacterKindOfPinLaw" (some 0) with
  accessFlags := 49
  interfaces := #[]
  cf := some (fileOf pool1 24 #[] #[{ accessFlags := 2, nameIndex := 5, descriptorIndex := 6, attributes := #[] }, { accessFlags := 9, nameIndex := 28, descriptorIndex := 29, attributes := #[] }] 49 2 #[] #[])
  fields := #[]
  methods := #[k1m0, k1m1]
  instanceTypes := #[]
  staticTypes := #[]
  resolved := Array.replicate 33 none
  statics := none }

def pool2 : Array CpInfo := pool [(1, .class_ 2), (0, u "java/lang/constant/Constable"), (0, .class_ 4), (0, u "java/lang/Object")] 6

/-- java/lang/constant/Constable -/
def k2 : Class := { plain "java/lang/constant/Constable" (some 0) with
  accessFlags := 1537
  interfaces := #[]
  cf := some (fileOf pool2 1 #[] #[] 1537 3 #[] #[])
  fields := #[]
  methods := #[]
  instanceTypes := #[]
  staticTypes := #[]
  resolved := Array.replicate 11 none
  statics := none }

def pool3 : Array CpInfo := pool [(1, .class_ 2), (0, u "java/lang/Comparable"), (0, .class_ 4), (0, u "java/lang/Object")] 7

/-- java/lang/Comparable -/
def k3 : Class := { plain "java/lang/Comparable" (some 0) with
  accessFlags := 1537
  interfaces := #[]
  cf := some (fileOf pool3 1 #[] #[] 1537 3 #[] #[])
  fields := #[]
  methods := #[]
  instanceTypes := #[]
  staticTypes := #[]
  resolved := Array.replicate 12 none
  statics := none }

def pool4 : Array CpInfo := pool [(1, .class_ 2), (0, u "java/io/Serializable"), (0, .class_ 4), (0, u "java/lang/Object")] 2

/-- java/io/Serializable -/
def k4 : Class := { plain "java/io/Serializable" (some 0) with
  accessFlags := 1537
  interfaces := #[]
  cf := some (fileOf pool4 1 #[] #[] 1537 3 #[] #[])
  fields := #[]
  methods := #[]
  instanceTypes := #[]
  staticTypes := #[]
  resolved := Array.replicate 7 none
  statics := none }

def pool5 : Array CpInfo := pool [(2, .class_ 4), (1, u "java/lang/Enum"), (0, u "name"), (0, u "Ljava/lang/String;"), (2, u "ordinal"), (0, u "I"), (1, .class_ 14), (1, u "java/lang/Object"), (4, u "hash"), (86, .class_ 108), (1, u "java/lang/Enum$EnumDesc"), (2, .class_ 112), (0, u "java/lang/constant/Constable"), (0, .class_ 114), (0, u "java/lang/Comparable"), (0, .class_ 116), (0, u "java/io/Serializable")] 87

/-- java/lang/Enum -/
def k5 : Class := { plain "java/lang/Enum" (some 0) with
  accessFlags := 1057
  interfaces := #[2, 3, 4]
  cf := some (fileOf pool5 2 #[.nestMembers #[106]] #[] 1057 12 #[111, 113, 115] #[{ accessFlags := 18, nameIndex := 5, descriptorIndex := 6, attributes := #[] }, { accessFlags := 18, nameIndex := 9, descriptorIndex := 10, attributes := #[] }, { accessFlags := 2, nameIndex := 19, descriptorIndex := 10, attributes := #[] }])
  fields := #[{ name := "name", type := (.object "java/lang/String"), accessFlags := 18, slot := 0, constantValue := 0 }, { name := "ordinal", type := .int, accessFlags := 18, slot := 1, constantValue := 0 }, { name := "hash", type := .int, accessFlags := 2, slot := 2, constantValue := 0 }]
  methods := #[]
  instanceTypes := #[(.object "java/lang/String"), .int, .int]
  staticTypes := #[]
  resolved := Array.replicate 204 none
  statics := none }

def pool6 : Array CpInfo := pool [(1, .class_ 2), (0, u "com/example/kura/kura/registry/CharacterKind"), (0, .fieldref 1 4), (0, .nameAndType 5 6), (0, u "DIGIT"), (0, u "Lcom/example/kura/kura/registry/CharacterKind;"), (0, .fieldref 1 8), (0, .nameAndType 9 6), (0, u "LETTER"), (0, .fieldref 1 11), (0, .nameAndType 12 6), (0, u "DIGIT_OR_LETTER"), (2, u "$VALUES"), (0, u "[Lcom/example/kura/kura/registry/CharacterKind;"), (6, .class_ 25), (1, u "java/lang/Enum"), (8, u "lowestValue"), (0, u "I"), (2, u "valueBound"), (46, u "of"), (0, u "(C)Lcom/example/kura/kura/registry/CharacterKind;")] 25

def k6c0 : Code := { maxStack := 3, maxLocals := 1, code := prog_12_method_4_code, exceptionTable := #[], attributes := #[] }
def k6m0 : Method := { name := "of", desc := "(C)Lcom/example/kura/kura/registry/CharacterKind;", sig := { parameters := [.char], returnType := some (.object "com/example/kura/kura/registry/CharacterKind") }, accessFlags := 8, code := some k6c0 }
/-- com/example/kura/kura/registry/CharacterKind -/
def k6 : Class := { plain "com/example/kura/kura/registry/CharacterKind" (some 5) with
  accessFlags := 16433
  interfaces := #[]
  cf := some (fileOf pool6 1 #[] #[{ accessFlags := 8, nameIndex := 85, descriptorIndex := 86, attributes := #[] }] 16433 23 #[] #[{ accessFlags := 16409, nameIndex := 5, descriptorIndex := 6, attributes := #[] }, { accessFlags := 16409, nameIndex := 9, descriptorIndex := 6, attributes := #[] }, { accessFlags := 16409, nameIndex := 12, descriptorIndex := 6, attributes := #[] }, { accessFlags := 18, nameIndex := 34, descriptorIndex := 35, attributes := #[] }, { accessFlags := 18, nameIndex := 38, descriptorIndex := 35, attributes := #[] }, { accessFlags := 4122, nameIndex := 15, descriptorIndex := 16, attributes := #[] }])
  fields := #[{ name := "DIGIT", type := (.object "com/example/kura/kura/registry/CharacterKind"), accessFlags := 16409, slot := 0, constantValue := 0 }, { name := "LETTER", type := (.object "com/example/kura/kura/registry/CharacterKind"), accessFlags := 16409, slot := 1, constantValue := 0 }, { name := "DIGIT_OR_LETTER", type := (.object "com/example/kura/kura/registry/CharacterKind"), accessFlags := 16409, slot := 2, constantValue := 0 }, { name := "lowestValue", type := .int, accessFlags := 18, slot := 3, constantValue := 0 }, { name := "valueBound", type := .int, accessFlags := 18, slot := 4, constantValue := 0 }, { name := "$VALUES", type := (.array (.object "com/example/kura/kura/registry/CharacterKind")), accessFlags := 4122, slot := 3, constantValue := 0 }]
  methods := #[k6m0]
  instanceTypes := #[(.object "java/lang/String"), .int, .int, .int, .int]
  staticTypes := #[(.object "com/example/kura/kura/registry/CharacterKind"), (.object "com/example/kura/kura/registry/CharacterKind"), (.object "com/example/kura/kura/registry/CharacterKind"), (.array (.object "com/example/kura/kura/registry/CharacterKind"))]
  resolved := Array.replicate 112 none
  statics := some 0 }

def pool7 : Array CpInfo := pool [(1, u "java/lang/Cloneable"), (0, .class_ 1), (0, u "java/lang/Object"), (0, .class_ 3)] 3

/-- java/lang/Cloneable -/
def k7 : Class := { plain "java/lang/Cloneable" (some 0) with
  accessFlags := 1537
  interfaces := #[]
  cf := some (fileOf pool7 2 #[] #[] 1537 4 #[] #[])
  fields := #[]
  methods := #[]
  instanceTypes := #[]
  staticTypes := #[]
  resolved := Array.replicate 8 none
  statics := none }

/-- the primitive byte -/
def k8 : Class := { plain "byte" none with kind := .primitive 'B', accessFlags := 0x411 }
/-- [B -/
def k9 : Class := { plain "[B" (some 0) with kind := .array 8 .byte, interfaces := #[7, 4], accessFlags := 1041 }

/-- the primitive int -/
def k10 : Class := { plain "int" none with kind := .primitive 'I', accessFlags := 0x411 }
/-- [I -/
def k11 : Class := { plain "[I" (some 0) with kind := .array 10 .int, interfaces := #[7, 4], accessFlags := 1041 }

def heap : Heap := #[{ cls := 6, slots := #[.ref 1, .ref 2, .ref 3, .null], vm := .statics 6 },
  { cls := 6, slots := #[.null, .int 0, .int 0, .int 0, .int 0], vm := .none },
  { cls := 6, slots := #[.null, .int 0, .int 0, .int 0, .int 0], vm := .none },
  { cls := 6, slots := #[.null, .int 0, .int 0, .int 0, .int 0], vm := .none }]
def classes : Array Class := #[k0, k1, k2, k3, k4, k5, k6, k7, k8, k9, k10, k11]
def interned : List (Array UInt16 × Addr) := []
def slotsUsed : Nat := 19
def theMethod : MethodId := ⟨1, 1⟩
def args0 : Array Value := #[.int 5]
def aboutOver (below : List Frame) : State where
  vm := { classes := classes, interned := interned.toArray }
  heap := heap
  slotsUsed := slotsUsed
  threads := #[{ frames := .invoking theMethod args0 :: below }]
def below0 : List Frame := [.native { method := ⟨0, 0⟩, args := #[] }]
def about1 : State := aboutOver below0
def p0 : Program := .bare "" "" ""
def e0 : Env := launch0.env 0 0 0
theorem w_frames : about1.frames = Frame.invoking theMethod args0 :: below0 := rfl
set_option maxRecDepth 65536 in
theorem w_args : argsFit about1.vm theMethod args0 = true := by decide +kernel
set_option maxRecDepth 65536 in
theorem w_heap : heapFits about1 = true := by decide +kernel
set_option maxRecDepth 65536 in
theorem w_runnable : about1.curStatus? = some .runnable := by decide +kernel
set_option maxRecDepth 65536 in
theorem w_alone : about1.alone = true := by decide +kernel
set_option maxRecDepth 65536 in
theorem w_named : about1.methodNamed? x = some theMethod := by decide +kernel
set_option maxRecDepth 65536 in
theorem w_hears : about1.hears theMethod below0 = true := by decide +kernel
set_option maxRecDepth 65536 in
theorem w_ripe : about1.ripe theMethod args0 below0 = true := by decide +kernel
theorem w_running : about1.status = .running := rfl
set_option maxRecDepth 65536 in
theorem w_room : about1.hasRoom e0.platform room_1 = true :=
  launch0.hasRoom_least _ room_1 (by decide +kernel) (by decide +kernel) (by decide +kernel) (by decide +kernel) (by decide +kernel) (by decide +kernel)
theorem allAtoms_all (ts : List Jvm.Cond) (a : Array Jvm.Value) (st : Jvm.State) : (allAtoms ts).before a st = ts.all (fun c => c.before a st) := by
  induction ts with
  | nil => rfl
  | cons c t ih =>
    show (Jvm.Cond.and c (allAtoms t)).before a st = _
    rw [Jvm.Cond.before_and, ih, List.all_cons]
def words1 : List Jvm.Cond := Jvm.Cond.code x code maxLocals ret :: tables_1
/-- a 'code' word, met by the world's own term for the bytes: nothing is compared byte by byte -/
theorem code_word {y : MethodName} {bytes : ByteArray} {mx : Nat} {rt : Option FieldType} {a : Array Value} {s : State} {m : MethodId} {meth : Method} {c : Code} (h1 : s.methodNamed? y = some m) (h2 : s.vm.method? m = some meth) (h3 : meth.code = some c) (h4 : c.code = bytes)
    (h5 : (c.maxLocals == mx && c.exceptionTable.isEmpty && decide (c.maxStack ≤ mostOperands) && decide (meth.sig.returnType = rt) && !meth.locks && decide (parseMethodDescriptor y.desc = some meth.sig)) = true) : (Jvm.Cond.code y bytes mx rt).before a s = true := by
  simp only [Bool.and_eq_true, beq_iff_eq, Bool.not_eq_true', decide_eq_true_eq] at h5
  obtain ⟨⟨⟨⟨⟨g1, g2⟩, g3⟩, g4⟩, g5⟩, g6⟩ := h5
  simp [Cond.before, Cond.holds, Cond.value, h1, h2, h3, h4, g1, g2, g3, g4, g5, g6]
def isCode : Jvm.Cond → Bool
  | .code _ _ _ _ => true
  | _ => false
theorem all_split {L : List Jvm.Cond} {P : Jvm.Cond → Bool} (h1 : L.all (fun c => isCode c || P c) = true) (h2 : ∀ c ∈ L.filter isCode, P c = true) : L.all P = true := by
  refine List.all_eq_true.mpr fun c hc => ?_
  have h := List.all_eq_true.mp h1 c hc
  rcases Bool.eq_false_or_eq_true (isCode c) with hi | hi
  · exact h2 c (List.mem_filter.mpr ⟨hc, hi⟩)
  · simpa [hi] using h
set_option maxRecDepth 65536 in
theorem w_c0 : (Jvm.Cond.code x code maxLocals ret).before args0 about1 = true := code_word (m := ⟨1, 1⟩) (meth := k1m1) (c := k1c1) (by decide +kernel) rfl rfl rfl (by decide +kernel)
set_option maxRecDepth 65536 in
theorem w_c1 : (Jvm.Cond.code ({ cls := "com/example/kura/kura/registry/CharacterKind", name := "of", desc := "(C)Lcom/example/kura/kura/registry/CharacterKind;" } : Jvm.MethodName) prog_12_method_4_code (1 : Nat) (Option.some (Jvm.ClassFile.FieldType.object "com/example/kura/kura/registry/CharacterKind"))).before args0 about1 = true := code_word (m := ⟨6, 0⟩) (meth := k6m0) (c := k6c0) (by decide +kernel) rfl rfl rfl (by decide +kernel)
def codes1 : List Jvm.Cond := [Jvm.Cond.code x code maxLocals ret, Jvm.Cond.code ({ cls := "com/example/kura/kura/registry/CharacterKind", name := "of", desc := "(C)Lcom/example/kura/kura/registry/CharacterKind;" } : Jvm.MethodName) prog_12_method_4_code (1 : Nat) (Option.some (Jvm.ClassFile.FieldType.object "com/example/kura/kura/registry/CharacterKind"))]
set_option maxRecDepth 65536 in
theorem codes_eq : words1.filter isCode = codes1 := rfl
theorem w_codes : ∀ c ∈ words1.filter isCode, c.before args0 about1 = true := by
  rw [codes_eq]
  intro c hc
  simp only [codes1, List.mem_cons, List.not_mem_nil, or_false] at hc
  rcases hc with rfl | rfl
  · exact w_c0
  · exact w_c1
set_option maxRecDepth 65536 in
theorem w_t1 : words1.all (fun c => isCode c || c.before args0 about1) = true := by decide +kernel
theorem w_tables : (allAtoms (Jvm.Cond.code x code maxLocals ret :: tables_1)).before args0 about1 = true := by
  rw [allAtoms_all]
  show words1.all (fun c => c.before args0 about1) = true
  refine all_split ?_ w_codes
  rw [w_t1]
set_option maxRecDepth 65536 in
theorem w_case : (Jvm.Cond.and given_1 narrow_1).before args0 about1 = true := by decide +kernel
theorem w_applies : (headSpec (Jvm.Cond.code x code maxLocals ret :: tables_1) room_1).applies x e0.platform about1 = true :=
  (Spec.applies_iff w_frames).mpr ⟨w_running, w_runnable, w_alone, w_named, w_hears, w_ripe, w_room, w_tables⟩
theorem atStart : AtStart classFile x code maxLocals ret World_1 tables_1 room_1 Calls_1 rest_1 Pre_1 launch0 p0 e0 about1 theMethod args0 below0 :=
  ⟨lists_1, trivial, launch0.admits_env _ _ _, launch0.least_env, fairChoices_fair.cas, fairChoices_fair.clock, w_frames, w_args, w_heap, w_applies, trivial, trivial, w_case⟩
end start1
theorem witness_1 : WitnessClaimed_1 := ⟨start1.p0, start1.e0, start1.about1, start1.theMethod, start1.args0, start1.below0, start1.atStart⟩
end Jvm.Pilot.@@N@@
