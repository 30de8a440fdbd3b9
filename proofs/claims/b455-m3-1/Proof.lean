import JvmDerived
import JvmDerived.Pilot.@@N@@Statement
import JvmDerived.Pilot.@@N@@Code
set_option linter.unusedVariables false
set_option linter.unusedSimpArgs false
namespace Jvm.RoadKit
open Sem ClassFile Op Lib Jvm.Stand Jvm.Free Jvm.LawKit
section New
variable {p : Program} {l : Launch} {e : Env} {R : Room} {s : State} {m : MethodId} {args : Array Value} {below : List Frame} {meth : Method} {c : Code} {T : State} {locs : List Loc} {cells slots : Nat}
theorem retI (X : Stand p l e R s m args below meth c T locs cells slots) (hx : p.tables.exec = Jvm.exec) {pc : Nat} {Ls : Array Slot} {z : Int32} {rest : List Value} (hret : meth.sig.returnType = some .int) (hd : decode c.code pc = .ok (.ireturn, 1)) {fs : List Frame}
    (hl : ∀ (f : JFrame) (acts : List Action), f.method = m → f.locked = none → f.entered = [] → (doReturn e (T.setTop f) acts (some (.int z))).1 = T.setFrames fs) : Steps p.tables e below (T.setTop (mkF m pc Ls (.int z :: rest))) (T.setFrames fs) :=
  retOut X hx hret rfl (Or.inl ⟨rfl, Or.inl rfl, z, rfl⟩) hd hl
theorem retJ (X : Stand p l e R s m args below meth c T locs cells slots) (hx : p.tables.exec = Jvm.exec) {pc : Nat} {Ls : Array Slot} {z : Int64} {rest : List Value} (hret : meth.sig.returnType = some .long) (hd : decode c.code pc = .ok (.lreturn, 1)) {fs : List Frame}
    (hl : ∀ (f : JFrame) (acts : List Action), f.method = m → f.locked = none → f.entered = [] → (doReturn e (T.setTop f) acts (some (.long z))).1 = T.setFrames fs) : Steps p.tables e below (T.setTop (mkF m pc Ls (.long z :: rest))) (T.setFrames fs) :=
  retOut X hx hret rfl (Or.inr (Or.inl ⟨rfl, rfl, z, rfl⟩)) hd hl
theorem retA (X : Stand p l e R s m args below meth c T locs cells slots) (hx : p.tables.exec = Jvm.exec) {pc : Nat} {Ls : Array Slot} {w : Value} {rest : List Value} {t : FieldType} (hret : meth.sig.returnType = some t) (ht : t.isReference = true) (hn : narrow t w = w) (hw : w.isRef = true) (hd : decode c.code pc = .ok (.areturn, 1)) {fs : List Frame}
    (hl : ∀ (f : JFrame) (acts : List Action), f.method = m → f.locked = none → f.entered = [] → (doReturn e (T.setTop f) acts (some w)).1 = T.setFrames fs) : Steps p.tables e below (T.setTop (mkF m pc Ls (w :: rest))) (T.setFrames fs) :=
  retOut X hx hret hn (Or.inr (Or.inr (Or.inr (Or.inr ⟨rfl, ht, hw⟩)))) hd hl
end New
end Jvm.RoadKit
namespace Jvm.Pilot.@@N@@
open Jvm Jvm.ClassFile Sem Op Lib Jvm.Free Jvm.Stand Jvm.LawKit Jvm.RoadKit Bundle Jvm.Pilot.@@N@@.Jvm.D
theorem own_ext {h0 h : Heap} (K : Keep h0 h []) : Ext h0 h := ⟨K.1, fun a c q => K.2.1 a c q nin0⟩

theorem own_len {args : Array Value} {s : State} {t : Term} {a : Addr} {c : Cell} {ty : FieldType} {n : Int32} (ev : t.eval args s none [] s = some (.ref a)) (A : Arr s s.heap a c ty) (h : (Cond.eq (.length t) (.int n)).value args s none s [] = some true) (hn : ¬ n < 0) : c.slots.size = n.toNatClampNeg := by
  have ha : s.arrayAt? a = some c := A.fin (Vm.Alike.refl _)
  by_cases q : c.slots.size < 2 ^ 31
  · have e1 := len_f ev ha q
    have e2 : (Term.int n).eval args s none [] s = some (.int n) := rfl
    simp [Cond.value, e1, e2] at h
    rw [← h]
    have := len_toInt q
    have h3 : c.slots.size.toInt32.toNatClampNeg = c.slots.size := by
      rw [Int32.toNatClampNeg, this]; simp
    exact h3.symm
  · have e1 : (Term.length t).eval args s none [] s = none := by simp [Term.eval, ev, ha]; omega
    simp [Cond.value, e1] at h
theorem own_el {args : Array Value} {s : State} {t u : Term} {a : Addr} {c : Cell} {ty : FieldType} {j : Int32} {w : Value} (ev : t.eval args s none [] s = some (.ref a)) (A : Arr s s.heap a c ty) (eu : u.eval args s none [] s = some w) (h : (Cond.eq (.elem t (.int j)) u).value args s none s [] = some true) (hj : ¬ j < 0) (hw : w.isRef = true) : c.slots[j.toNatClampNeg]? = some w := by
  have ha : s.arrayAt? a = some c := A.fin (Vm.Alike.refl _)
  have e1 := elem_f (o := none) (first := s) (idx := []) (a := Term.int j) ev (rfl : (Term.int j).eval args s none [] s = some (.int j)) ha hj
  cases q : c.slots[j.toNatClampNeg]? with
  | none => rw [q] at e1; simp [Cond.value, e1] at h
  | some v =>
    rw [q] at e1
    rcases ref_cases hw with rfl | ⟨b, rfl⟩ <;> cases v <;> simp_all [Cond.value]
theorem own_pn0 : plainName "com/example/forseti/forseti/core/VerilogOperators" = true := by first | (simp [plainName, overriddenIn]; done) | decide +kernel
theorem own_d1_0 : decode prog_101_method_3_code 0 = .ok (.iload_n 0, 1) := by decide +kernel
theorem own_d1_1 : decode prog_101_method_3_code 1 = .ok (.ifCond .eq 9, 3) := by decide +kernel
theorem own_d1_10 : decode prog_101_method_3_code 10 = .ok (.getstatic 23, 3) := by decide +kernel
theorem own_d1_13 : decode prog_101_method_3_code 13 = .ok (.areturn, 1) := by decide +kernel
def own_Q1_0 (Z : State) (wF : Addr) (h0 : Heap) (n0 : Nat) (v : Option Value) (h : Heap) (L : List Loc) : Prop := v = some (.ref wF) ∧ Fr n0 L ∧ h = h0
theorem own_ef1_0 (m : MethodId)  : entryFrame m #[(.int (0 : Int32))] 1 = mkF m 0 #[.val (.int (0 : Int32))] [] := by first | (simp [entryFrame, mkF, argsToLocals, Value.category]; done) | rfl
set_option maxRecDepth 65536 in
set_option maxHeartbeats 40000000 in
theorem own_rm1_0 (l : Launch) (Z : State) (a0 : Array Value) (hw : ∀ d ∈ tables_1, d.before a0 Z = true) (ws : List Jvm.Cond) (wF : Addr) (h0 : Heap) (n0 : Nat) (Z0 : n0 ≤ h0.size) (S_FALSE : Sta Z h0 "com/example/forseti/forseti/core/VerilogOperators" "FALSE" "Lcom/example/forseti/forseti/traces/LogicVector;" (.ref wF)) :
    MetFree l (⟨"com/example/forseti/forseti/core/VerilogOperators", "of", "(Z)Lcom/example/forseti/forseti/traces/LogicVector;"⟩ : MethodName) (head1 (Jvm.Cond.code (⟨"com/example/forseti/forseti/core/VerilogOperators", "of", "(Z)Lcom/example/forseti/forseti/traces/LogicVector;"⟩ : MethodName) prog_101_method_3_code 1 (some (.object "com/example/forseti/forseti/traces/LogicVector")) :: ws) ({ frames := 0, cells := 0, slots := 0, locals := 0 } : Room)) (fun a U => a = #[(.int (0 : Int32))] ∧ Z.Warmed39 U.vm ∧ U.heap = h0) (fun _ _ _ _ _ => True) (fun _ U o U' => ∃ v L, o = .returned v ∧ own_Q1_0 Z wF h0 n0 v U'.heap L ∧ FrameEnd U o U' L ({ frames := 0, cells := 0, slots := 0, locals := 0 } : Room).cells ({ frames := 0, cells := 0, slots := 0, locals := 0 } : Room).slots) := by
  refine MetFree.of_bodySF (plainFor_of_name own_pn0) hisR ?_
  intro p e s m args below meth c s₁ Bd hml0 hP hK
  obtain ⟨rfl, hZ, hh⟩ := hP
  have hx := Bd.exec
  have hby := Bd.bytes
  have hml : c.maxLocals = 1 := hml0
  have hown : s.vm.findClass "com/example/forseti/forseti/core/VerilogOperators" = some m.cls := findClass_of_methodNamed Bd.named
  have hnm := (name_of_methodNamed Bd.named Bd.method).1
  have X0 : Stand p l e ({ frames := 0, cells := 0, slots := 0, locals := 0 } : Room) s m #[(.int (0 : Int32))] below meth c s₁ [] 0 0 := Stand.of_body Bd
  have e0 : s₁.heap = h0 := by rw [← hh, Bd.state]; rfl
  have N0 := Fr.nil n0
  have pre0 : ∀ t, Steps p.tables e below (s₁.setTop (mkF m 0 #[.val (.int (0 : Int32))] [])) t → Steps p.tables e below (s₁.setTop (entryFrame m #[(.int (0 : Int32))] 1)) t := fun t k => castTop (own_ef1_0 m ) k
  obtain ⟨T1, X1, e1, st1⟩ := getS2 X0 hx hZ hown (host := "") (Or.inl (hw _ (List.mem_of_getElem? (i := 4) rfl))) Via.refl e0 S_FALSE (g := (mkF m 10 #[.val (.int (0 : Int32))] [])) rfl (hb hby own_d1_10)
  obtain ⟨fs, hr, hrun, hended, hW, hsame⟩ := X1.leave (v := some (.ref wF)) (fun h => by rw [Bd.returns] at h; cases h)
  refine ⟨_, _, pre0 _ ?_, hrun, hended, _, _, rfl, ?_, ⟨_, rfl⟩, hW, hsame.mono (by decide) (by decide)⟩
  · show Steps p.tables e below (s₁.setTop (mkF m 0 #[.val (.int (0 : Int32))] [])) _
    refine XS.iloadN X0.here hx rfl (hb hby own_d1_0) rfl ?_
    show Steps p.tables e below (s₁.setTop (mkF m 1 #[.val (.int (0 : Int32))] [(.int (0 : Int32))])) _
    refine XS.ifYes X0.here hx rfl (pc0 := 1) (pc' := 10) rfl (hb hby own_d1_1) rfl ((if0 _ _).trans (teq rfl).1) (by decide) (by decide) ?_
    show Steps p.tables e below (s₁.setTop (mkF m 10 #[.val (.int (0 : Int32))] [])) _
    refine st1 _ ?_
    show Steps p.tables e below (T1.setTop (mkF m 13 #[.val (.int (0 : Int32))] [(.ref wF)])) _
    exact retA X1 hx Bd.returns rfl rfl rfl (hb hby own_d1_13) hr
  · show own_Q1_0 Z wF h0 n0 _ T1.heap _
    rw [e1]
    exact ⟨rfl, N0, rfl⟩
theorem own_d1_4 : decode prog_101_method_3_code 4 = .ok (.getstatic 19, 3) := by decide +kernel
theorem own_d1_7 : decode prog_101_method_3_code 7 = .ok (.goto 6, 3) := by decide +kernel
def own_Q1_1 (Z : State) (wT : Addr) (h0 : Heap) (n0 : Nat) (v : Option Value) (h : Heap) (L : List Loc) : Prop := v = some (.ref wT) ∧ Fr n0 L ∧ h = h0
theorem own_ef1_1 (m : MethodId)  : entryFrame m #[(.int (1 : Int32))] 1 = mkF m 0 #[.val (.int (1 : Int32))] [] := by first | (simp [entryFrame, mkF, argsToLocals, Value.category]; done) | rfl
set_option maxRecDepth 65536 in
set_option maxHeartbeats 40000000 in
theorem own_rm1_1 (l : Launch) (Z : State) (a0 : Array Value) (hw : ∀ d ∈ tables_1, d.before a0 Z = true) (ws : List Jvm.Cond) (wT : Addr) (h0 : Heap) (n0 : Nat) (Z0 : n0 ≤ h0.size) (S_TRUE : Sta Z h0 "com/example/forseti/forseti/core/VerilogOperators" "TRUE" "Lcom/example/forseti/forseti/traces/LogicVector;" (.ref wT)) :
    MetFree l (⟨"com/example/forseti/forseti/core/VerilogOperators", "of", "(Z)Lcom/example/forseti/forseti/traces/LogicVector;"⟩ : MethodName) (head1 (Jvm.Cond.code (⟨"com/example/forseti/forseti/core/VerilogOperators", "of", "(Z)Lcom/example/forseti/forseti/traces/LogicVector;"⟩ : MethodName) prog_101_method_3_code 1 (some (.object "com/example/forseti/forseti/traces/LogicVector")) :: ws) ({ frames := 0, cells := 0, slots := 0, locals := 0 } : Room)) (fun a U => a = #[(.int (1 : Int32))] ∧ Z.Warmed39 U.vm ∧ U.heap = h0) (fun _ _ _ _ _ => True) (fun _ U o U' => ∃ v L, o = .returned v ∧ own_Q1_1 Z wT h0 n0 v U'.heap L ∧ FrameEnd U o U' L ({ frames := 0, cells := 0, slots := 0, locals := 0 } : Room).cells ({ frames := 0, cells := 0, slots := 0, locals := 0 } : Room).slots) := by
  refine MetFree.of_bodySF (plainFor_of_name own_pn0) hisR ?_
  intro p e s m args below meth c s₁ Bd hml0 hP hK
  obtain ⟨rfl, hZ, hh⟩ := hP
  have hx := Bd.exec
  have hby := Bd.bytes
  have hml : c.maxLocals = 1 := hml0
  have hown : s.vm.findClass "com/example/forseti/forseti/core/VerilogOperators" = some m.cls := findClass_of_methodNamed Bd.named
  have hnm := (name_of_methodNamed Bd.named Bd.method).1
  have X0 : Stand p l e ({ frames := 0, cells := 0, slots := 0, locals := 0 } : Room) s m #[(.int (1 : Int32))] below meth c s₁ [] 0 0 := Stand.of_body Bd
  have e0 : s₁.heap = h0 := by rw [← hh, Bd.state]; rfl
  have N0 := Fr.nil n0
  have pre0 : ∀ t, Steps p.tables e below (s₁.setTop (mkF m 0 #[.val (.int (1 : Int32))] [])) t → Steps p.tables e below (s₁.setTop (entryFrame m #[(.int (1 : Int32))] 1)) t := fun t k => castTop (own_ef1_1 m ) k
  have hd1 : ¬ ((1 : Int32) = (0 : Int32)) := (by decide)
  obtain ⟨T2, X2, e2, st2⟩ := getS2 X0 hx hZ hown (host := "") (Or.inl (hw _ (List.mem_of_getElem? (i := 22) rfl))) Via.refl e0 S_TRUE (g := (mkF m 4 #[.val (.int (1 : Int32))] [])) rfl (hb hby own_d1_4)
  obtain ⟨fs, hr, hrun, hended, hW, hsame⟩ := X2.leave (v := some (.ref wT)) (fun h => by rw [Bd.returns] at h; cases h)
  refine ⟨_, _, pre0 _ ?_, hrun, hended, _, _, rfl, ?_, ⟨_, rfl⟩, hW, hsame.mono (by decide) (by decide)⟩
  · show Steps p.tables e below (s₁.setTop (mkF m 0 #[.val (.int (1 : Int32))] [])) _
    refine XS.iloadN X0.here hx rfl (hb hby own_d1_0) rfl ?_
    show Steps p.tables e below (s₁.setTop (mkF m 1 #[.val (.int (1 : Int32))] [(.int (1 : Int32))])) _
    refine XS.ifNo X0.here hx rfl (hb hby own_d1_1) rfl ((if0 _ _).trans (feq hd1).1) ?_
    show Steps p.tables e below (s₁.setTop (mkF m 4 #[.val (.int (1 : Int32))] [])) _
    refine st2 _ ?_
    show Steps p.tables e below (T2.setTop (mkF m 7 #[.val (.int (1 : Int32))] [(.ref wT)])) _
    refine XS.goto X2.here hx rfl (pc0 := 7) (pc' := 13) rfl (hb hby own_d1_7) (by decide) (by decide) ?_
    show Steps p.tables e below (T2.setTop (mkF m 13 #[.val (.int (1 : Int32))] [(.ref wT)])) _
    exact retA X2 hx Bd.returns rfl rfl rfl (hb hby own_d1_13) hr
  · show own_Q1_1 Z wT h0 n0 _ T2.heap _
    rw [e2]
    exact ⟨rfl, N0, rfl⟩
theorem own_pn1 : plainName "com/example/forseti/forseti/traces/LogicVector" = true := by first | (simp [plainName, overriddenIn]; done) | decide +kernel
theorem own_d2_0 : decode prog_145_method_5_code 0 = .ok (.aload_n 0, 1) := by decide +kernel
theorem own_d2_1 : decode prog_145_method_5_code 1 = .ok (.getfield 7, 3) := by decide +kernel
theorem own_d2_4 : decode prog_145_method_5_code 4 = .ok (.arraylength, 1) := by decide +kernel
theorem own_d2_5 : decode prog_145_method_5_code 5 = .ok (.ireturn, 1) := by decide +kernel
def own_Q2 (Z : State) (xthis : Addr) (xb : Addr) (xcl : Cell) (h0 : Heap) (n0 : Nat) (v : Option Value) (h : Heap) (L : List Loc) : Prop := v = some (.int (1 : Int32)) ∧ Fr n0 L ∧ h = h0
theorem own_ef2 (m : MethodId) (xthis : Addr) : entryFrame m #[(.ref xthis)] 1 = mkF m 0 #[.val (.ref xthis)] [] := by first | (simp [entryFrame, mkF, argsToLocals, Value.category]; done) | rfl
set_option maxRecDepth 65536 in
set_option maxHeartbeats 40000000 in
theorem own_rm2 (l : Launch) (Z : State) (a0 : Array Value) (hw : ∀ d ∈ tables_1, d.before a0 Z = true) (ws : List Jvm.Cond) (xthis : Addr) (xb : Addr) (xcl : Cell) (h0 : Heap) (n0 : Nat) (Z0 : n0 ≤ h0.size) (F_bits_xthis : Fld Z h0 xthis "com/example/forseti/forseti/traces/LogicVector" "bits" "[Lcom/example/forseti/forseti/traces/LogicValue;" (.ref xb)) (R_xb : Arr Z h0 xb xcl (.object "com/example/forseti/forseti/traces/LogicValue")) (hsz : xcl.slots.size = (1 : Int32).toNatClampNeg) :
    MetFree l (⟨"com/example/forseti/forseti/traces/LogicVector", "width", "()I"⟩ : MethodName) (head1 (Jvm.Cond.code (⟨"com/example/forseti/forseti/traces/LogicVector", "width", "()I"⟩ : MethodName) prog_145_method_5_code 1 (some .int) :: ws) ({ frames := 0, cells := 0, slots := 0, locals := 0 } : Room)) (fun a U => a = #[(.ref xthis)] ∧ Z.Warmed39 U.vm ∧ U.heap = h0) (fun _ _ _ _ _ => True) (fun _ U o U' => ∃ v L, o = .returned v ∧ own_Q2 Z xthis xb xcl h0 n0 v U'.heap L ∧ FrameEnd U o U' L ({ frames := 0, cells := 0, slots := 0, locals := 0 } : Room).cells ({ frames := 0, cells := 0, slots := 0, locals := 0 } : Room).slots) := by
  refine MetFree.of_bodySF (plainFor_of_name own_pn1) hisR ?_
  intro p e s m args below meth c s₁ Bd hml0 hP hK
  obtain ⟨rfl, hZ, hh⟩ := hP
  have hx := Bd.exec
  have hby := Bd.bytes
  have hml : c.maxLocals = 1 := hml0
  have hown : s.vm.findClass "com/example/forseti/forseti/traces/LogicVector" = some m.cls := findClass_of_methodNamed Bd.named
  have hnm := (name_of_methodNamed Bd.named Bd.method).1
  have X0 : Stand p l e ({ frames := 0, cells := 0, slots := 0, locals := 0 } : Room) s m #[(.ref xthis)] below meth c s₁ [] 0 0 := Stand.of_body Bd
  have e0 : s₁.heap = h0 := by rw [← hh, Bd.state]; rfl
  have N0 := Fr.nil n0
  have pre0 : ∀ t, Steps p.tables e below (s₁.setTop (mkF m 0 #[.val (.ref xthis)] [])) t → Steps p.tables e below (s₁.setTop (entryFrame m #[(.ref xthis)] 1)) t := fun t k => castTop (own_ef2 m xthis) k
  obtain ⟨T1, X1, e1, st1⟩ := getF X0 hx hZ hown (host := "") (Or.inl (hw _ (List.mem_of_getElem? (i := 12) rfl))) Via.refl e0 F_bits_xthis (g := (mkF m 1 #[.val (.ref xthis)] [(.ref xthis)])) rfl rfl (hb hby own_d2_1)
  obtain ⟨fs, hr, hrun, hended, hW, hsame⟩ := X1.leave (v := some (.int (1 : Int32))) (fun h => by rw [Bd.returns] at h; cases h)
  refine ⟨_, _, pre0 _ ?_, hrun, hended, _, _, rfl, ?_, ⟨_, rfl⟩, hW, hsame.mono (by decide) (by decide)⟩
  · show Steps p.tables e below (s₁.setTop (mkF m 0 #[.val (.ref xthis)] [])) _
    refine XS.aloadN X0.here hx rfl (hb hby own_d2_0) rfl rfl ?_
    show Steps p.tables e below (s₁.setTop (mkF m 1 #[.val (.ref xthis)] [(.ref xthis)])) _
    refine st1 _ ?_
    show Steps p.tables e below (T1.setTop (mkF m 4 #[.val (.ref xthis)] [(.ref xb)])) _
    refine X1.arraylength hx (by rw [e1]; exact R_xb.1) (State.isArrayOf_alike hZ.alike R_xb.2.1) (g := (mkF m 4 #[.val (.ref xthis)] [(.ref xb)])) rfl rfl (hb hby own_d2_4) _ ?_
    rw [len_of hsz (by decide)]
    show Steps p.tables e below (T1.setTop (mkF m 5 #[.val (.ref xthis)] [(.int (1 : Int32))])) _
    exact retI X1 hx Bd.returns (hb hby own_d2_5) hr
  · show own_Q2 Z xthis xb xcl h0 n0 _ T1.heap _
    rw [e1]
    exact ⟨rfl, N0, rfl⟩
theorem own_d3_0 : decode prog_145_method_6_code 0 = .ok (.aload_n 0, 1) := by decide +kernel
theorem own_d3_1 : decode prog_145_method_6_code 1 = .ok (.getfield 7, 3) := by decide +kernel
theorem own_d3_4 : decode prog_145_method_6_code 4 = .ok (.iload_n 1, 1) := by decide +kernel
theorem own_d3_5 : decode prog_145_method_6_code 5 = .ok (.aaload, 1) := by decide +kernel
theorem own_d3_6 : decode prog_145_method_6_code 6 = .ok (.areturn, 1) := by decide +kernel
def own_Q3 (Z : State) (xthis : Addr) (xb : Addr) (xcl : Cell) (xo : Addr) (h0 : Heap) (n0 : Nat) (v : Option Value) (h : Heap) (L : List Loc) : Prop := v = some (.ref xo) ∧ Fr n0 L ∧ h = h0
theorem own_ef3 (m : MethodId) (xthis : Addr) : entryFrame m #[(.ref xthis), (.int (0 : Int32))] 2 = mkF m 0 #[.val (.ref xthis), .val (.int (0 : Int32))] [] := by first | (simp [entryFrame, mkF, argsToLocals, Value.category]; done) | rfl
set_option maxRecDepth 65536 in
set_option maxHeartbeats 40000000 in
theorem own_rm3 (l : Launch) (Z : State) (a0 : Array Value) (hw : ∀ d ∈ tables_1, d.before a0 Z = true) (ws : List Jvm.Cond) (xthis : Addr) (xb : Addr) (xcl : Cell) (xo : Addr) (h0 : Heap) (n0 : Nat) (Z0 : n0 ≤ h0.size) (F_bits_xthis : Fld Z h0 xthis "com/example/forseti/forseti/traces/LogicVector" "bits" "[Lcom/example/forseti/forseti/traces/LogicValue;" (.ref xb)) (R_xb : Arr Z h0 xb xcl (.object "com/example/forseti/forseti/traces/LogicValue")) (hsz : xcl.slots.size = (1 : Int32).toNatClampNeg) (hel : xcl.slots[(0 : Int32).toNatClampNeg]? = some (.ref xo)) :
    MetFree l (⟨"com/example/forseti/forseti/traces/LogicVector", "bit", "(I)Lcom/example/forseti/forseti/traces/LogicValue;"⟩ : MethodName) (head1 (Jvm.Cond.code (⟨"com/example/forseti/forseti/traces/LogicVector", "bit", "(I)Lcom/example/forseti/forseti/traces/LogicValue;"⟩ : MethodName) prog_145_method_6_code 2 (some (.object "com/example/forseti/forseti/traces/LogicValue")) :: ws) ({ frames := 0, cells := 0, slots := 0, locals := 0 } : Room)) (fun a U => a = #[(.ref xthis), (.int (0 : Int32))] ∧ Z.Warmed39 U.vm ∧ U.heap = h0) (fun _ _ _ _ _ => True) (fun _ U o U' => ∃ v L, o = .returned v ∧ own_Q3 Z xthis xb xcl xo h0 n0 v U'.heap L ∧ FrameEnd U o U' L ({ frames := 0, cells := 0, slots := 0, locals := 0 } : Room).cells ({ frames := 0, cells := 0, slots := 0, locals := 0 } : Room).slots) := by
  refine MetFree.of_bodySF (plainFor_of_name own_pn1) hisR ?_
  intro p e s m args below meth c s₁ Bd hml0 hP hK
  obtain ⟨rfl, hZ, hh⟩ := hP
  have hx := Bd.exec
  have hby := Bd.bytes
  have hml : c.maxLocals = 2 := hml0
  have hown : s.vm.findClass "com/example/forseti/forseti/traces/LogicVector" = some m.cls := findClass_of_methodNamed Bd.named
  have hnm := (name_of_methodNamed Bd.named Bd.method).1
  have X0 : Stand p l e ({ frames := 0, cells := 0, slots := 0, locals := 0 } : Room) s m #[(.ref xthis), (.int (0 : Int32))] below meth c s₁ [] 0 0 := Stand.of_body Bd
  have e0 : s₁.heap = h0 := by rw [← hh, Bd.state]; rfl
  have N0 := Fr.nil n0
  have pre0 : ∀ t, Steps p.tables e below (s₁.setTop (mkF m 0 #[.val (.ref xthis), .val (.int (0 : Int32))] [])) t → Steps p.tables e below (s₁.setTop (entryFrame m #[(.ref xthis), (.int (0 : Int32))] 2)) t := fun t k => castTop (own_ef3 m xthis) k
  obtain ⟨T1, X1, e1, st1⟩ := getF X0 hx hZ hown (host := "") (Or.inl (hw _ (List.mem_of_getElem? (i := 12) rfl))) Via.refl e0 F_bits_xthis (g := (mkF m 1 #[.val (.ref xthis), .val (.int (0 : Int32))] [(.ref xthis)])) rfl rfl (hb hby own_d3_1)
  obtain ⟨fs, hr, hrun, hended, hW, hsame⟩ := X1.leave (v := some (.ref xo)) (fun h => by rw [Bd.returns] at h; cases h)
  refine ⟨_, _, pre0 _ ?_, hrun, hended, _, _, rfl, ?_, ⟨_, rfl⟩, hW, hsame.mono (by decide) (by decide)⟩
  · show Steps p.tables e below (s₁.setTop (mkF m 0 #[.val (.ref xthis), .val (.int (0 : Int32))] [])) _
    refine XS.aloadN X0.here hx rfl (hb hby own_d3_0) rfl rfl ?_
    show Steps p.tables e below (s₁.setTop (mkF m 1 #[.val (.ref xthis), .val (.int (0 : Int32))] [(.ref xthis)])) _
    refine st1 _ ?_
    show Steps p.tables e below (T1.setTop (mkF m 4 #[.val (.ref xthis), .val (.int (0 : Int32))] [(.ref xb)])) _
    refine XS.iloadN X1.here hx rfl (hb hby own_d3_4) rfl ?_
    show Steps p.tables e below (T1.setTop (mkF m 5 #[.val (.ref xthis), .val (.int (0 : Int32))] [(.int (0 : Int32)), (.ref xb)])) _
    refine X1.aaload hx (j := (0 : Int32)) (v := (.ref xo)) (by rw [e1]; exact R_xb.1) (State.isArrayOf_alike hZ.alike R_xb.2.1) rfl R_xb.2.2 (inb_of hsz ⟨by decide, by decide⟩) hel (g := (mkF m 5 #[.val (.ref xthis), .val (.int (0 : Int32))] [(.int (0 : Int32)), (.ref xb)])) rfl rfl (hb hby own_d3_5) _ ?_
    show Steps p.tables e below (T1.setTop (mkF m 6 #[.val (.ref xthis), .val (.int (0 : Int32))] [(.ref xo)])) _
    exact retA X1 hx Bd.returns rfl rfl rfl (hb hby own_d3_6) hr
  · show own_Q3 Z xthis xb xcl xo h0 n0 _ T1.heap _
    rw [e1]
    exact ⟨rfl, N0, rfl⟩
theorem own_pn2 : plainName "com/example/forseti/forseti/core/VerilogOperatorsOfPinLaw" = true := by first | (simp [plainName, overriddenIn]; done) | decide +kernel
theorem own_pd0 : parseMethodDescriptor "(Z)Lcom/example/forseti/forseti/traces/LogicVector;" = some ⟨[.boolean], some (.object "com/example/forseti/forseti/traces/LogicVector")⟩ := by decide +kernel
theorem own_pd1 : parseMethodDescriptor "()I" = some ⟨[], some .int⟩ := by decide +kernel
theorem own_pd2 : parseMethodDescriptor "(I)Lcom/example/forseti/forseti/traces/LogicValue;" = some ⟨[.int], some (.object "com/example/forseti/forseti/traces/LogicValue")⟩ := by decide +kernel
def own_Q0 (Z : State) (xf : Int32) (wF : Addr) (wT : Addr) (wZ : Addr) (wO : Addr) (bF : Addr) (cF : Cell) (bT : Addr) (cT : Cell) (h0 : Heap) (n0 : Nat) (v : Option Value) (h : Heap) (L : List Loc) : Prop := v = some (.int (1 : Int32)) ∧ Fr n0 L
theorem own_ef0 (m : MethodId) (xf : Int32) : entryFrame m #[(.int xf)] maxLocals = mkF m 0 #[.val (.int xf), .unset, .unset, .unset] [] := by first | (simp [entryFrame, mkF, argsToLocals, Value.category, maxLocals]; done) | rfl
set_option maxRecDepth 65536 in
set_option maxHeartbeats 40000000 in
theorem own_rm0 (l : Launch) (Z : State) (a0 : Array Value) (hw : ∀ d ∈ tables_1, d.before a0 Z = true) (ws : List Jvm.Cond) (xf : Int32) (wF : Addr) (wT : Addr) (wZ : Addr) (wO : Addr) (bF : Addr) (cF : Cell) (bT : Addr) (cT : Cell) (h0 : Heap) (n0 : Nat) (Z0 : n0 ≤ h0.size) (S_FALSE : Sta Z h0 "com/example/forseti/forseti/core/VerilogOperators" "FALSE" "Lcom/example/forseti/forseti/traces/LogicVector;" (.ref wF)) (S_TRUE : Sta Z h0 "com/example/forseti/forseti/core/VerilogOperators" "TRUE" "Lcom/example/forseti/forseti/traces/LogicVector;" (.ref wT)) (S_ZERO : Sta Z h0 "com/example/forseti/forseti/traces/LogicValue" "ZERO" "Lcom/example/forseti/forseti/traces/LogicValue;" (.ref wZ)) (S_ONE : Sta Z h0 "com/example/forseti/forseti/traces/LogicValue" "ONE" "Lcom/example/forseti/forseti/traces/LogicValue;" (.ref wO)) (E_wF : Exa Z h0 wF "com/example/forseti/forseti/traces/LogicVector") (E_wT : Exa Z h0 wT "com/example/forseti/forseti/traces/LogicVector") (F_bits_wF : Fld Z h0 wF "com/example/forseti/forseti/traces/LogicVector" "bits" "[Lcom/example/forseti/forseti/traces/LogicValue;" (.ref bF)) (R_bF : Arr Z h0 bF cF (.object "com/example/forseti/forseti/traces/LogicValue")) (F_bits_wT : Fld Z h0 wT "com/example/forseti/forseti/traces/LogicVector" "bits" "[Lcom/example/forseti/forseti/traces/LogicValue;" (.ref bT)) (R_bT : Arr Z h0 bT cT (.object "com/example/forseti/forseti/traces/LogicValue")) (szF : cF.slots.size = (1 : Int32).toNatClampNeg) (szT : cT.slots.size = (1 : Int32).toNatClampNeg) (elF : cF.slots[(0 : Int32).toNatClampNeg]? = some (.ref wZ)) (elT : cT.slots[(0 : Int32).toNatClampNeg]? = some (.ref wO)) :
    MetFree l x (head1 (Jvm.Cond.code x code maxLocals ret :: ws) room_1) (fun a U => a = #[(.int xf)] ∧ Z.Warmed39 U.vm ∧ U.heap = h0) (fun _ _ _ _ _ => True) (fun _ U o U' => ∃ v L, o = .returned v ∧ own_Q0 Z xf wF wT wZ wO bF cF bT cT h0 n0 v U'.heap L ∧ FrameEnd U o U' L room_1.cells room_1.slots) := by
  refine MetFree.of_bodySF (plainFor_of_name own_pn2) hisR ?_
  intro p e s m args below meth c s₁ Bd hml0 hP hK
  obtain ⟨rfl, hZ, hh⟩ := hP
  have hx := Bd.exec
  have hby := Bd.bytes
  have hml : c.maxLocals = 4 := hml0
  have hown : s.vm.findClass "com/example/forseti/forseti/core/VerilogOperatorsOfPinLaw" = some m.cls := findClass_of_methodNamed Bd.named
  have hnm := (name_of_methodNamed Bd.named Bd.method).1
  have X0 : Stand p l e room_1 s m #[(.int xf)] below meth c s₁ [] 0 0 := Stand.of_body Bd
  have e0 : s₁.heap = h0 := by rw [← hh, Bd.state]; rfl
  have N0 := Fr.nil n0
  have pre0 : ∀ t, Steps p.tables e below (s₁.setTop (mkF m 0 #[.val (.int xf), .unset, .unset, .unset] [])) t → Steps p.tables e below (s₁.setTop (entryFrame m #[(.int xf)] maxLocals)) t := fun t k => castTop (own_ef0 m xf) k
  have K0 : Keep h0 h0 [] := Keep.refl _ _
  have pre1 : ∀ t, Steps p.tables e below (s₁.setTop (mkF m 3 #[.val (.int xf), .unset, .unset, .unset] [(.int (xf &&& (1 : Int32)))])) t → Steps p.tables e below (s₁.setTop (entryFrame m #[(.int xf)] maxLocals)) t := by
    intro t k
    refine pre0 _ ?_
    show Steps p.tables e below (s₁.setTop (mkF m 0 #[.val (.int xf), .unset, .unset, .unset] [])) _
    refine XS.iloadN X0.here hx rfl (hb hby at_0) rfl ?_
    show Steps p.tables e below (s₁.setTop (mkF m 1 #[.val (.int xf), .unset, .unset, .unset] [(.int xf)])) _
    refine XS.iconst X0.here hx rfl (hb hby at_1) ?_
    show Steps p.tables e below (s₁.setTop (mkF m 2 #[.val (.int xf), .unset, .unset, .unset] [(.int (1 : Int32)), (.int xf)])) _
    refine XS.iand X0.here hx rfl (hb hby at_2) rfl ?_
    exact k
  by_cases hc3 : (xf &&& (1 : Int32)) = (0 : Int32)
  · obtain ⟨_, _, ⟨T2, L2, k2, n2⟩, -, X2, ⟨Lc2, hQ2, l2, y2, z2⟩, st2⟩ := Jvm.LawKit.callS X0 hx (y := (⟨"com/example/forseti/forseti/core/VerilogOperators", "of", "(Z)Lcom/example/forseti/forseti/traces/LogicVector;"⟩ : MethodName)) hown (mvT hZ (hw _ (List.mem_of_getElem? (i := 0) rfl))) (mvT hZ (hw _ (List.mem_of_getElem? (i := 1) rfl))) (mvT hZ (hw _ (List.mem_of_getElem? (i := 2) rfl))) (mvT hZ (hw _ (List.mem_of_getElem? (i := 3) rfl))) (by decide) (backOf (W := 0) (own_rm1_0 l Z a0 hw [] wF h0 n0 Z0 S_FALSE) hZ (hw _ (List.mem_of_getElem? (i := 3) rfl)) (hw _ (List.mem_of_getElem? (i := 2) rfl)) (by decide) (by decide)) (g := (mkF m 13 #[.val (.int xf), .val (.int (0 : Int32)), .unset, .unset] [(.int (0 : Int32))])) rfl (by rw [hml]; rfl) (argsL := [(.int (0 : Int32))]) (rest := []) (lenOf own_pd0 rfl) rfl (by show 2 * 0 + _ ≤ _; exact Nat.le_of_eq rfl) (hb hby at_13) (fun _ _ => ⟨rfl, e0, (by decide : 0 + 0 ≤ _), (by decide : 0 + 0 ≤ _)⟩)
    dsimp only [Pt.U, Pt.locs, Pt.cells, Pt.slots] at X2 l2 y2 z2 st2 hQ2
    subst l2 y2 z2
    obtain ⟨rfl, N2q, eh2⟩ := hQ2
    have N2 := Fr.app N0 N2q
    obtain ⟨cq3, kq3, q3a, q3b, q3c⟩ := isOf hZ eh2 E_wF
    obtain ⟨_, _, ⟨T3, L3, k3, n3⟩, -, X3, ⟨Lc3, hQ3, l3, y3, z3⟩, st3⟩ := X2.virtualBack hx (y := (⟨"com/example/forseti/forseti/traces/LogicVector", "width", "()I"⟩ : MethodName)) (z := (⟨"com/example/forseti/forseti/traces/LogicVector", "width", "()I"⟩ : MethodName)) hown (mvT hZ (hw _ (List.mem_of_getElem? (i := 6) rfl))) (mvT hZ (hw _ (List.mem_of_getElem? (i := 7) rfl))) (notFace_of_selects (args := #[]) (mvT hZ (hw _ (List.mem_of_getElem? (i := 9) rfl)))) (mvT hZ (hw _ (List.mem_of_getElem? (i := 9) rfl))) (mvT hZ (hw _ (List.mem_of_getElem? (i := 8) rfl))) (by decide) (backOf (W := 0) (own_rm2 l Z a0 hw [] wF bF cF h0 n0 Z0 F_bits_wF R_bF (szF)) hZ (hw _ (List.mem_of_getElem? (i := 11) rfl)) (hw _ (List.mem_of_getElem? (i := 10) rfl)) (by decide) (by decide)) q3a q3c (g := (mkF m 24 #[.val (.int xf), .val (.int (0 : Int32)), .val (.ref wF), .unset] [(.ref wF)])) rfl (by rw [hml]; rfl) (Steps.refl _) (argsL := []) (rest := []) (lenOf own_pd1 rfl) rfl (by show 2 * 0 + _ ≤ _; exact Nat.le_of_eq rfl) (hb hby at_24) (fun _ _ => ⟨rfl, eh2, (by decide : 0 + 0 ≤ _), (by decide : 0 + 0 ≤ _)⟩)
    dsimp only [Pt.U, Pt.locs, Pt.cells, Pt.slots] at X3 l3 y3 z3 st3 hQ3
    subst l3 y3 z3
    obtain ⟨rfl, N3q, eh3⟩ := hQ3
    have N3 := Fr.app N2 N3q
    obtain ⟨T4, X4, e4, st4⟩ := getS2 X3 hx hZ hown (host := "") (Or.inl (hw _ (List.mem_of_getElem? (i := 14) rfl))) Via.refl eh3 S_ZERO (g := (mkF m 44 #[.val (.int xf), .val (.int (0 : Int32)), .val (.ref wF), .unset] [])) rfl (hb hby at_44)
    obtain ⟨cq5, kq5, q5a, q5b, q5c⟩ := isOf hZ e4 E_wF
    obtain ⟨_, _, ⟨T5, L5, k5, n5⟩, -, X5, ⟨Lc5, hQ5, l5, y5, z5⟩, st5⟩ := X4.virtualBack hx (y := (⟨"com/example/forseti/forseti/traces/LogicVector", "bit", "(I)Lcom/example/forseti/forseti/traces/LogicValue;"⟩ : MethodName)) (z := (⟨"com/example/forseti/forseti/traces/LogicVector", "bit", "(I)Lcom/example/forseti/forseti/traces/LogicValue;"⟩ : MethodName)) hown (mvT hZ (hw _ (List.mem_of_getElem? (i := 17) rfl))) (mvT hZ (hw _ (List.mem_of_getElem? (i := 18) rfl))) (notFace_of_selects (args := #[]) (mvT hZ (hw _ (List.mem_of_getElem? (i := 20) rfl)))) (mvT hZ (hw _ (List.mem_of_getElem? (i := 20) rfl))) (mvT hZ (hw _ (List.mem_of_getElem? (i := 19) rfl))) (by decide) (backOf (W := 0) (own_rm3 l Z a0 hw [] wF bF cF wZ h0 n0 Z0 F_bits_wF R_bF (szF) (elF)) hZ (hw _ (List.mem_of_getElem? (i := 21) rfl)) (hw _ (List.mem_of_getElem? (i := 10) rfl)) (by decide) (by decide)) q5a q5c (g := (mkF m 50 #[.val (.int xf), .val (.int (0 : Int32)), .val (.ref wF), .val (.ref wZ)] [(.int (0 : Int32)), (.ref wF)])) rfl (by rw [hml]; rfl) (Steps.refl _) (argsL := [(.int (0 : Int32))]) (rest := []) (lenOf own_pd2 rfl) rfl (by show 2 * 0 + _ ≤ _; exact Nat.le_of_eq rfl) (hb hby at_50) (fun _ _ => ⟨rfl, e4, (by decide : 0 + 0 ≤ _), (by decide : 0 + 0 ≤ _)⟩)
    dsimp only [Pt.U, Pt.locs, Pt.cells, Pt.slots] at X5 l5 y5 z5 st5 hQ5
    subst l5 y5 z5
    obtain ⟨rfl, N5q, eh5⟩ := hQ5
    have N5 := Fr.app N3 N5q
    obtain ⟨fs, hr, hrun, hended, hW, hsame⟩ := X5.leave (v := some (.int (1 : Int32))) (fun h => by rw [Bd.returns] at h; cases h)
    refine ⟨_, _, pre1 _ ?_, hrun, hended, _, _, rfl, ?_, ⟨_, rfl⟩, hW, hsame.mono (by decide) (by decide)⟩
    · show Steps p.tables e below (s₁.setTop (mkF m 3 #[.val (.int xf), .unset, .unset, .unset] [(.int (xf &&& (1 : Int32)))])) _
      refine XS.ifYes X0.here hx rfl (pc0 := 3) (pc' := 10) rfl (hb hby at_3) rfl ((if0 _ _).trans (teq hc3).1) (by decide) (by decide) ?_
      show Steps p.tables e below (s₁.setTop (mkF m 10 #[.val (.int xf), .unset, .unset, .unset] [])) _
      refine XS.iconst X0.here hx rfl (hb hby at_10) ?_
      show Steps p.tables e below (s₁.setTop (mkF m 11 #[.val (.int xf), .unset, .unset, .unset] [(.int (0 : Int32))])) _
      refine XS.istoreN X0.here hx rfl (hb hby at_11) rfl (l' := #[.val (.int xf), .val (.int (0 : Int32)), .unset, .unset]) rfl ?_
      show Steps p.tables e below (s₁.setTop (mkF m 12 #[.val (.int xf), .val (.int (0 : Int32)), .unset, .unset] [])) _
      refine XS.iloadN X0.here hx rfl (hb hby at_12) rfl ?_
      show Steps p.tables e below (s₁.setTop (mkF m 13 #[.val (.int xf), .val (.int (0 : Int32)), .unset, .unset] [(.int (0 : Int32))])) _
      refine st2 _ ?_
      show Steps p.tables e below (T2.setTop (mkF m 16 #[.val (.int xf), .val (.int (0 : Int32)), .unset, .unset] [(.ref wF)])) _
      refine XS.astoreN X2.here hx rfl (hb hby at_16) rfl rfl (l' := #[.val (.int xf), .val (.int (0 : Int32)), .val (.ref wF), .unset]) rfl ?_
      show Steps p.tables e below (T2.setTop (mkF m 17 #[.val (.int xf), .val (.int (0 : Int32)), .val (.ref wF), .unset] [])) _
      refine XS.aloadN X2.here hx rfl (hb hby at_17) rfl rfl ?_
      show Steps p.tables e below (T2.setTop (mkF m 18 #[.val (.int xf), .val (.int (0 : Int32)), .val (.ref wF), .unset] [(.ref wF)])) _
      refine XS.ifnonnullYes X2.here hx rfl (pc0 := 18) (pc' := 23) rfl (hb hby at_18) rfl (by decide) (by decide) ?_
      show Steps p.tables e below (T2.setTop (mkF m 23 #[.val (.int xf), .val (.int (0 : Int32)), .val (.ref wF), .unset] [])) _
      refine XS.aloadN X2.here hx rfl (hb hby at_23) rfl rfl ?_
      show Steps p.tables e below (T2.setTop (mkF m 24 #[.val (.int xf), .val (.int (0 : Int32)), .val (.ref wF), .unset] [(.ref wF)])) _
      refine st3.trans ?_
      show Steps p.tables e below (T3.setTop (mkF m 27 #[.val (.int xf), .val (.int (0 : Int32)), .val (.ref wF), .unset] [(.int (1 : Int32))])) _
      refine XS.iconst X3.here hx rfl (hb hby at_27) ?_
      show Steps p.tables e below (T3.setTop (mkF m 28 #[.val (.int xf), .val (.int (0 : Int32)), .val (.ref wF), .unset] [(.int (1 : Int32)), (.int (1 : Int32))])) _
      refine XS.icmpYes X3.here hx rfl (pc0 := 28) (pc' := 33) rfl (hb hby at_28) rfl (teq rfl).1 (by decide) (by decide) ?_
      show Steps p.tables e below (T3.setTop (mkF m 33 #[.val (.int xf), .val (.int (0 : Int32)), .val (.ref wF), .unset] [])) _
      refine XS.iloadN X3.here hx rfl (hb hby at_33) rfl ?_
      show Steps p.tables e below (T3.setTop (mkF m 34 #[.val (.int xf), .val (.int (0 : Int32)), .val (.ref wF), .unset] [(.int (0 : Int32))])) _
      refine XS.ifYes X3.here hx rfl (pc0 := 34) (pc' := 44) rfl (hb hby at_34) rfl ((if0 _ _).trans (teq rfl).1) (by decide) (by decide) ?_
      show Steps p.tables e below (T3.setTop (mkF m 44 #[.val (.int xf), .val (.int (0 : Int32)), .val (.ref wF), .unset] [])) _
      refine st4 _ ?_
      show Steps p.tables e below (T4.setTop (mkF m 47 #[.val (.int xf), .val (.int (0 : Int32)), .val (.ref wF), .unset] [(.ref wZ)])) _
      refine XS.astoreN X4.here hx rfl (hb hby at_47) rfl rfl (l' := #[.val (.int xf), .val (.int (0 : Int32)), .val (.ref wF), .val (.ref wZ)]) rfl ?_
      show Steps p.tables e below (T4.setTop (mkF m 48 #[.val (.int xf), .val (.int (0 : Int32)), .val (.ref wF), .val (.ref wZ)] [])) _
      refine XS.aloadN X4.here hx rfl (hb hby at_48) rfl rfl ?_
      show Steps p.tables e below (T4.setTop (mkF m 49 #[.val (.int xf), .val (.int (0 : Int32)), .val (.ref wF), .val (.ref wZ)] [(.ref wF)])) _
      refine XS.iconst X4.here hx rfl (hb hby at_49) ?_
      show Steps p.tables e below (T4.setTop (mkF m 50 #[.val (.int xf), .val (.int (0 : Int32)), .val (.ref wF), .val (.ref wZ)] [(.int (0 : Int32)), (.ref wF)])) _
      refine st5.trans ?_
      show Steps p.tables e below (T5.setTop (mkF m 53 #[.val (.int xf), .val (.int (0 : Int32)), .val (.ref wF), .val (.ref wZ)] [(.ref wZ)])) _
      refine XS.aloadN X5.here hx rfl (hb hby at_53) rfl rfl ?_
      show Steps p.tables e below (T5.setTop (mkF m 54 #[.val (.int xf), .val (.int (0 : Int32)), .val (.ref wF), .val (.ref wZ)] [(.ref wZ), (.ref wZ)])) _
      refine Jvm.RoadKit.acmp (g := (mkF m 54 #[.val (.int xf), .val (.int (0 : Int32)), .val (.ref wF), .val (.ref wZ)] [(.ref wZ), (.ref wZ)])) X5 hx rfl rfl rfl (pc0 := 54) (pc' := 57) (same := true) rfl (hb hby at_54) rfl (decide_eq_true rfl) (by decide) (by decide) ?_
      show Steps p.tables e below (T5.setTop (mkF m 57 #[.val (.int xf), .val (.int (0 : Int32)), .val (.ref wF), .val (.ref wZ)] [])) _
      refine XS.iconst X5.here hx rfl (hb hby at_57) ?_
      show Steps p.tables e below (T5.setTop (mkF m 58 #[.val (.int xf), .val (.int (0 : Int32)), .val (.ref wF), .val (.ref wZ)] [(.int (1 : Int32))])) _
      refine XS.goto X5.here hx rfl (pc0 := 58) (pc' := 62) rfl (hb hby at_58) (by decide) (by decide) ?_
      show Steps p.tables e below (T5.setTop (mkF m 62 #[.val (.int xf), .val (.int (0 : Int32)), .val (.ref wF), .val (.ref wZ)] [(.int (1 : Int32))])) _
      exact retN X5 hx (t := .boolean) Bd.returns (by simp) (hb hby at_62) hr
    · show own_Q0 Z xf wF wT wZ wO bF cF bT cT h0 n0 _ T5.heap _
      rw [eh5]
      exact ⟨rfl, N5⟩
  · obtain ⟨_, _, ⟨T6, L6, k6, n6⟩, -, X6, ⟨Lc6, hQ6, l6, y6, z6⟩, st6⟩ := Jvm.LawKit.callS X0 hx (y := (⟨"com/example/forseti/forseti/core/VerilogOperators", "of", "(Z)Lcom/example/forseti/forseti/traces/LogicVector;"⟩ : MethodName)) hown (mvT hZ (hw _ (List.mem_of_getElem? (i := 0) rfl))) (mvT hZ (hw _ (List.mem_of_getElem? (i := 1) rfl))) (mvT hZ (hw _ (List.mem_of_getElem? (i := 2) rfl))) (mvT hZ (hw _ (List.mem_of_getElem? (i := 3) rfl))) (by decide) (backOf (W := 0) (own_rm1_1 l Z a0 hw [] wT h0 n0 Z0 S_TRUE) hZ (hw _ (List.mem_of_getElem? (i := 3) rfl)) (hw _ (List.mem_of_getElem? (i := 2) rfl)) (by decide) (by decide)) (g := (mkF m 13 #[.val (.int xf), .val (.int (1 : Int32)), .unset, .unset] [(.int (1 : Int32))])) rfl (by rw [hml]; rfl) (argsL := [(.int (1 : Int32))]) (rest := []) (lenOf own_pd0 rfl) rfl (by show 2 * 0 + _ ≤ _; exact Nat.le_of_eq rfl) (hb hby at_13) (fun _ _ => ⟨rfl, e0, (by decide : 0 + 0 ≤ _), (by decide : 0 + 0 ≤ _)⟩)
    dsimp only [Pt.U, Pt.locs, Pt.cells, Pt.slots] at X6 l6 y6 z6 st6 hQ6
    subst l6 y6 z6
    obtain ⟨rfl, N6q, eh6⟩ := hQ6
    have N6 := Fr.app N0 N6q
    obtain ⟨cq7, kq7, q7a, q7b, q7c⟩ := isOf hZ eh6 E_wT
    obtain ⟨_, _, ⟨T7, L7, k7, n7⟩, -, X7, ⟨Lc7, hQ7, l7, y7, z7⟩, st7⟩ := X6.virtualBack hx (y := (⟨"com/example/forseti/forseti/traces/LogicVector", "width", "()I"⟩ : MethodName)) (z := (⟨"com/example/forseti/forseti/traces/LogicVector", "width", "()I"⟩ : MethodName)) hown (mvT hZ (hw _ (List.mem_of_getElem? (i := 6) rfl))) (mvT hZ (hw _ (List.mem_of_getElem? (i := 7) rfl))) (notFace_of_selects (args := #[]) (mvT hZ (hw _ (List.mem_of_getElem? (i := 9) rfl)))) (mvT hZ (hw _ (List.mem_of_getElem? (i := 9) rfl))) (mvT hZ (hw _ (List.mem_of_getElem? (i := 8) rfl))) (by decide) (backOf (W := 0) (own_rm2 l Z a0 hw [] wT bT cT h0 n0 Z0 F_bits_wT R_bT (szT)) hZ (hw _ (List.mem_of_getElem? (i := 11) rfl)) (hw _ (List.mem_of_getElem? (i := 10) rfl)) (by decide) (by decide)) q7a q7c (g := (mkF m 24 #[.val (.int xf), .val (.int (1 : Int32)), .val (.ref wT), .unset] [(.ref wT)])) rfl (by rw [hml]; rfl) (Steps.refl _) (argsL := []) (rest := []) (lenOf own_pd1 rfl) rfl (by show 2 * 0 + _ ≤ _; exact Nat.le_of_eq rfl) (hb hby at_24) (fun _ _ => ⟨rfl, eh6, (by decide : 0 + 0 ≤ _), (by decide : 0 + 0 ≤ _)⟩)
    dsimp only [Pt.U, Pt.locs, Pt.cells, Pt.slots] at X7 l7 y7 z7 st7 hQ7
    subst l7 y7 z7
    obtain ⟨rfl, N7q, eh7⟩ := hQ7
    have N7 := Fr.app N6 N7q
    have hd8 : ¬ ((1 : Int32) = (0 : Int32)) := (by decide)
    obtain ⟨T9, X9, e9, st9⟩ := getS2 X7 hx hZ hown (host := "") (Or.inl (hw _ (List.mem_of_getElem? (i := 24) rfl))) Via.refl eh7 S_ONE (g := (mkF m 37 #[.val (.int xf), .val (.int (1 : Int32)), .val (.ref wT), .unset] [])) rfl (hb hby at_37)
    obtain ⟨cq10, kq10, q10a, q10b, q10c⟩ := isOf hZ e9 E_wT
    obtain ⟨_, _, ⟨T10, L10, k10, n10⟩, -, X10, ⟨Lc10, hQ10, l10, y10, z10⟩, st10⟩ := X9.virtualBack hx (y := (⟨"com/example/forseti/forseti/traces/LogicVector", "bit", "(I)Lcom/example/forseti/forseti/traces/LogicValue;"⟩ : MethodName)) (z := (⟨"com/example/forseti/forseti/traces/LogicVector", "bit", "(I)Lcom/example/forseti/forseti/traces/LogicValue;"⟩ : MethodName)) hown (mvT hZ (hw _ (List.mem_of_getElem? (i := 17) rfl))) (mvT hZ (hw _ (List.mem_of_getElem? (i := 18) rfl))) (notFace_of_selects (args := #[]) (mvT hZ (hw _ (List.mem_of_getElem? (i := 20) rfl)))) (mvT hZ (hw _ (List.mem_of_getElem? (i := 20) rfl))) (mvT hZ (hw _ (List.mem_of_getElem? (i := 19) rfl))) (by decide) (backOf (W := 0) (own_rm3 l Z a0 hw [] wT bT cT wO h0 n0 Z0 F_bits_wT R_bT (szT) (elT)) hZ (hw _ (List.mem_of_getElem? (i := 21) rfl)) (hw _ (List.mem_of_getElem? (i := 10) rfl)) (by decide) (by decide)) q10a q10c (g := (mkF m 50 #[.val (.int xf), .val (.int (1 : Int32)), .val (.ref wT), .val (.ref wO)] [(.int (0 : Int32)), (.ref wT)])) rfl (by rw [hml]; rfl) (Steps.refl _) (argsL := [(.int (0 : Int32))]) (rest := []) (lenOf own_pd2 rfl) rfl (by show 2 * 0 + _ ≤ _; exact Nat.le_of_eq rfl) (hb hby at_50) (fun _ _ => ⟨rfl, e9, (by decide : 0 + 0 ≤ _), (by decide : 0 + 0 ≤ _)⟩)
    dsimp only [Pt.U, Pt.locs, Pt.cells, Pt.slots] at X10 l10 y10 z10 st10 hQ10
    subst l10 y10 z10
    obtain ⟨rfl, N10q, eh10⟩ := hQ10
    have N10 := Fr.app N7 N10q
    obtain ⟨fs, hr, hrun, hended, hW, hsame⟩ := X10.leave (v := some (.int (1 : Int32))) (fun h => by rw [Bd.returns] at h; cases h)
    refine ⟨_, _, pre1 _ ?_, hrun, hended, _, _, rfl, ?_, ⟨_, rfl⟩, hW, hsame.mono (by decide) (by decide)⟩
    · show Steps p.tables e below (s₁.setTop (mkF m 3 #[.val (.int xf), .unset, .unset, .unset] [(.int (xf &&& (1 : Int32)))])) _
      refine XS.ifNo X0.here hx rfl (hb hby at_3) rfl ((if0 _ _).trans (feq hc3).1) ?_
      show Steps p.tables e below (s₁.setTop (mkF m 6 #[.val (.int xf), .unset, .unset, .unset] [])) _
      refine XS.iconst X0.here hx rfl (hb hby at_6) ?_
      show Steps p.tables e below (s₁.setTop (mkF m 7 #[.val (.int xf), .unset, .unset, .unset] [(.int (1 : Int32))])) _
      refine XS.goto X0.here hx rfl (pc0 := 7) (pc' := 11) rfl (hb hby at_7) (by decide) (by decide) ?_
      show Steps p.tables e below (s₁.setTop (mkF m 11 #[.val (.int xf), .unset, .unset, .unset] [(.int (1 : Int32))])) _
      refine XS.istoreN X0.here hx rfl (hb hby at_11) rfl (l' := #[.val (.int xf), .val (.int (1 : Int32)), .unset, .unset]) rfl ?_
      show Steps p.tables e below (s₁.setTop (mkF m 12 #[.val (.int xf), .val (.int (1 : Int32)), .unset, .unset] [])) _
      refine XS.iloadN X0.here hx rfl (hb hby at_12) rfl ?_
      show Steps p.tables e below (s₁.setTop (mkF m 13 #[.val (.int xf), .val (.int (1 : Int32)), .unset, .unset] [(.int (1 : Int32))])) _
      refine st6 _ ?_
      show Steps p.tables e below (T6.setTop (mkF m 16 #[.val (.int xf), .val (.int (1 : Int32)), .unset, .unset] [(.ref wT)])) _
      refine XS.astoreN X6.here hx rfl (hb hby at_16) rfl rfl (l' := #[.val (.int xf), .val (.int (1 : Int32)), .val (.ref wT), .unset]) rfl ?_
      show Steps p.tables e below (T6.setTop (mkF m 17 #[.val (.int xf), .val (.int (1 : Int32)), .val (.ref wT), .unset] [])) _
      refine XS.aloadN X6.here hx rfl (hb hby at_17) rfl rfl ?_
      show Steps p.tables e below (T6.setTop (mkF m 18 #[.val (.int xf), .val (.int (1 : Int32)), .val (.ref wT), .unset] [(.ref wT)])) _
      refine XS.ifnonnullYes X6.here hx rfl (pc0 := 18) (pc' := 23) rfl (hb hby at_18) rfl (by decide) (by decide) ?_
      show Steps p.tables e below (T6.setTop (mkF m 23 #[.val (.int xf), .val (.int (1 : Int32)), .val (.ref wT), .unset] [])) _
      refine XS.aloadN X6.here hx rfl (hb hby at_23) rfl rfl ?_
      show Steps p.tables e below (T6.setTop (mkF m 24 #[.val (.int xf), .val (.int (1 : Int32)), .val (.ref wT), .unset] [(.ref wT)])) _
      refine st7.trans ?_
      show Steps p.tables e below (T7.setTop (mkF m 27 #[.val (.int xf), .val (.int (1 : Int32)), .val (.ref wT), .unset] [(.int (1 : Int32))])) _
      refine XS.iconst X7.here hx rfl (hb hby at_27) ?_
      show Steps p.tables e below (T7.setTop (mkF m 28 #[.val (.int xf), .val (.int (1 : Int32)), .val (.ref wT), .unset] [(.int (1 : Int32)), (.int (1 : Int32))])) _
      refine XS.icmpYes X7.here hx rfl (pc0 := 28) (pc' := 33) rfl (hb hby at_28) rfl (teq rfl).1 (by decide) (by decide) ?_
      show Steps p.tables e below (T7.setTop (mkF m 33 #[.val (.int xf), .val (.int (1 : Int32)), .val (.ref wT), .unset] [])) _
      refine XS.iloadN X7.here hx rfl (hb hby at_33) rfl ?_
      show Steps p.tables e below (T7.setTop (mkF m 34 #[.val (.int xf), .val (.int (1 : Int32)), .val (.ref wT), .unset] [(.int (1 : Int32))])) _
      refine XS.ifNo X7.here hx rfl (hb hby at_34) rfl ((if0 _ _).trans (feq hd8).1) ?_
      show Steps p.tables e below (T7.setTop (mkF m 37 #[.val (.int xf), .val (.int (1 : Int32)), .val (.ref wT), .unset] [])) _
      refine st9 _ ?_
      show Steps p.tables e below (T9.setTop (mkF m 40 #[.val (.int xf), .val (.int (1 : Int32)), .val (.ref wT), .unset] [(.ref wO)])) _
      refine XS.astoreN X9.here hx rfl (hb hby at_40) rfl rfl (l' := #[.val (.int xf), .val (.int (1 : Int32)), .val (.ref wT), .val (.ref wO)]) rfl ?_
      show Steps p.tables e below (T9.setTop (mkF m 41 #[.val (.int xf), .val (.int (1 : Int32)), .val (.ref wT), .val (.ref wO)] [])) _
      refine XS.goto X9.here hx rfl (pc0 := 41) (pc' := 48) rfl (hb hby at_41) (by decide) (by decide) ?_
      show Steps p.tables e below (T9.setTop (mkF m 48 #[.val (.int xf), .val (.int (1 : Int32)), .val (.ref wT), .val (.ref wO)] [])) _
      refine XS.aloadN X9.here hx rfl (hb hby at_48) rfl rfl ?_
      show Steps p.tables e below (T9.setTop (mkF m 49 #[.val (.int xf), .val (.int (1 : Int32)), .val (.ref wT), .val (.ref wO)] [(.ref wT)])) _
      refine XS.iconst X9.here hx rfl (hb hby at_49) ?_
      show Steps p.tables e below (T9.setTop (mkF m 50 #[.val (.int xf), .val (.int (1 : Int32)), .val (.ref wT), .val (.ref wO)] [(.int (0 : Int32)), (.ref wT)])) _
      refine st10.trans ?_
      show Steps p.tables e below (T10.setTop (mkF m 53 #[.val (.int xf), .val (.int (1 : Int32)), .val (.ref wT), .val (.ref wO)] [(.ref wO)])) _
      refine XS.aloadN X10.here hx rfl (hb hby at_53) rfl rfl ?_
      show Steps p.tables e below (T10.setTop (mkF m 54 #[.val (.int xf), .val (.int (1 : Int32)), .val (.ref wT), .val (.ref wO)] [(.ref wO), (.ref wO)])) _
      refine Jvm.RoadKit.acmp (g := (mkF m 54 #[.val (.int xf), .val (.int (1 : Int32)), .val (.ref wT), .val (.ref wO)] [(.ref wO), (.ref wO)])) X10 hx rfl rfl rfl (pc0 := 54) (pc' := 57) (same := true) rfl (hb hby at_54) rfl (decide_eq_true rfl) (by decide) (by decide) ?_
      show Steps p.tables e below (T10.setTop (mkF m 57 #[.val (.int xf), .val (.int (1 : Int32)), .val (.ref wT), .val (.ref wO)] [])) _
      refine XS.iconst X10.here hx rfl (hb hby at_57) ?_
      show Steps p.tables e below (T10.setTop (mkF m 58 #[.val (.int xf), .val (.int (1 : Int32)), .val (.ref wT), .val (.ref wO)] [(.int (1 : Int32))])) _
      refine XS.goto X10.here hx rfl (pc0 := 58) (pc' := 62) rfl (hb hby at_58) (by decide) (by decide) ?_
      show Steps p.tables e below (T10.setTop (mkF m 62 #[.val (.int xf), .val (.int (1 : Int32)), .val (.ref wT), .val (.ref wO)] [(.int (1 : Int32))])) _
      exact retN X10 hx (t := .boolean) Bd.returns (by simp) (hb hby at_62) hr
    · show own_Q0 Z xf wF wT wZ wO bF cF bT cT h0 n0 _ T10.heap _
      rw [eh10]
      exact ⟨rfl, N10⟩
set_option maxRecDepth 65536 in
set_option maxHeartbeats 40000000 in
theorem own_comes_1 {Post : Tables → Env → Array Value → State → Outcome → State → Prop} (hpost : ∀ tb e args s v u, (limb_1_1.after args s (.returned v) u = true ∧ limb_1_2.after args s (.returned v) u = true ∧ True) → FrameEnd s (.returned v) u (Jvm.fieldLocs frame_1_writes args s ++ Jvm.arrayLocs frame_1_arrays args s ++ Jvm.staticLocs frame_1_statics s) 0 0 → Post tb e args s (.returned v) u) :
    ArmFor flags0 classFile x code maxLocals ret World_1 tables_1 room_1 Calls_1 rest_1 Pre_1 Post := by
  intro l hfl _ _ p e ha hc hk s m args below hf hA hF happ hP
  obtain ⟨hcalls, hrest, hpre⟩ := hP
  obtain ⟨-, -, -, hnamed, -, -, -, hat⟩ := (Spec.applies_iff hf).mp happ
  obtain ⟨hg, hn⟩ := and_e (Cond.before_iff.mp (show (Jvm.Cond.and given_1 narrow_1).before args s = true from hpre))
  obtain ⟨gg1, gg2⟩ := and_e hg
  obtain ⟨w0, rfl⟩ : ∃ w0 : Value, args = #[w0] := by
    have hs : args.size = 1 := by simpa [Cond.value, given_1] using gg1
    obtain ⟨L⟩ := args
    match L, hs with
    | [w0], _ => exact ⟨w0, rfl⟩
  have hw := fun d (hd : d ∈ tables_1) => atoms_spec (ws := Jvm.Cond.code x code maxLocals ret :: tables_1) hat d (List.mem_cons_of_mem _ hd)
  have hfit : Fit s := fun {y c} hc i hi => by
    obtain ⟨ha, rfl⟩ := Array.getElem?_eq_some_iff.mp hc
    have q := List.all_eq_true.mp ((Array.all_eq_true_iff_forall_mem.mp hF) _ (Array.getElem_mem ha)) i (List.mem_range.mpr hi)
    simpa [Array.getElem?_eq_getElem hi] using q
  obtain ⟨i0, ei0⟩ := is_v gg2
  obtain rfl : w0 = (.int i0) := Option.some.inj ei0
  obtain ⟨n0, r0⟩ := and_e hn
  obtain ⟨n1, r1⟩ := and_e r0
  obtain ⟨n2, r2⟩ := and_e r1
  obtain ⟨n3, r3⟩ := and_e r2
  obtain ⟨n4, r4⟩ := and_e r3
  obtain ⟨n5, r5⟩ := and_e r4
  obtain ⟨n6, r6⟩ := and_e r5
  obtain ⟨n7, r7⟩ := and_e r6
  obtain ⟨n8, r8⟩ := and_e r7
  have n9 := r8
  obtain ⟨wF, evwF⟩ := exa_v n0
  have SwF := Sta.start evwF (Or.inr ⟨(hw _ (List.mem_of_getElem? (i := 2) rfl)), (hw _ (List.mem_of_getElem? (i := 5) rfl))⟩)
  obtain ⟨wZ, evwZ⟩ := exa_v n3
  have SwZ := Sta.start evwZ (Or.inr ⟨(hw _ (List.mem_of_getElem? (i := 15) rfl)), (hw _ (List.mem_of_getElem? (i := 16) rfl))⟩)
  obtain ⟨wT, evwT⟩ := exa_v n5
  have SwT := Sta.start evwT (Or.inr ⟨(hw _ (List.mem_of_getElem? (i := 2) rfl)), (hw _ (List.mem_of_getElem? (i := 23) rfl))⟩)
  obtain ⟨wO, evwO⟩ := exa_v n8
  have SwO := Sta.start evwO (Or.inr ⟨(hw _ (List.mem_of_getElem? (i := 15) rfl)), (hw _ (List.mem_of_getElem? (i := 25) rfl))⟩)
  have EF := Exa.start evwF n0
  obtain ⟨bF, evbF⟩ := arr_v n1
  have FF := Fld.start ((fld_at evwF).symm.trans evbF)
  obtain ⟨cF, RF⟩ := Arr.start evbF n1
  have szF := own_len evbF RF n2 (by decide)
  have elF := own_el evbF RF evwZ n4 (by decide) rfl
  have ET := Exa.start evwT n5
  obtain ⟨bT, evbT⟩ := arr_v n6
  have FT := Fld.start ((fld_at evwT).symm.trans evbT)
  obtain ⟨cT, RT⟩ := Arr.start evbT n6
  have szT := own_len evbT RT n7 (by decide)
  have elT := own_el evbT RT evwO n9 (by decide) rfl
  obtain ⟨n, o, h1, h2, h3, _, L, rfl, ⟨rfl, N⟩, hq⟩ := own_rm0 l s _ hw tables_1 i0 wF wT wZ wO bF cF bT cT s.heap s.heap.size (Nat.le_refl _) SwF SwT SwZ SwO EF ET FF RF FT RT szF szT elF elT p e ha hc hk s m _ below hf ((Spec.applies_iff_loose hf).mp happ).1 ⟨rfl, State.Warmed39.refl s, rfl⟩ trivial
  refine ⟨n, _, h1, h2, h3, hpost _ _ _ _ _ _ ⟨Cond.after_iff.mpr rfl, Cond.after_iff.mpr (eq_i res_at (Term.int_eval (1)) rfl), trivial⟩ ⟨hq.1, hq.2.1, (hq.2.2.sift fun y hy => Or.inr (N y hy)).mono (by decide) (by decide)⟩⟩
theorem main_1_1 : Claimed_1_1 := own_comes_1 fun _ _ _ _ _ _ h hF => ⟨h.1, hF⟩
theorem main_1_2 : Claimed_1_2 := own_comes_1 fun _ _ _ _ _ _ h hF => ⟨h.2.1, hF⟩
end Jvm.Pilot.@@N@@
namespace Jvm.Pilot.@@N@@
open Jvm Jvm.ClassFile Sem Op Lib Jvm.Free Jvm.Stand Jvm.Pilot.@@N@@.Jvm.D
/-! MADE BY PROGRAM (witnessworld.py) out of the Statement's table words and the real class files: 15 classes; the members and pool entries that the words name. The judged class is class 1, her method 1. -/
namespace start1
open Jvm.ClassFile
def u (s : String) : CpInfo := .utf8 (stringToUtf16 s)
/-- a pool by its gaps: so many unusable entries, then the entry; so many at the end -/
def gap : Nat → List CpInfo → List CpInfo
  | 0, r => r
  | n + 1, r => .unusable :: gap n r
def poolList (es : List (Nat × CpInfo)) (last : Nat) : List CpInfo := es.foldr (fun e r => gap e.1 (e.2 :: r)) (gap last [])
def pool (es : List (Nat × CpInfo)) (last : Nat) : Array CpInfo := ⟨poolList es last⟩
def fileOf (pool : Array CpInfo) (this : Nat) (attrs : Array Attribute := #[]) (ms : Array MethodInfo := #[]) (fl : Nat := 33) (sup : Nat := 0) (ifs : Array Nat := #[]) (fds : Array FieldInfo := #[]) : ClassFile where
  minorVersion := 0
  majorVersion := 65
  constantPool := pool
  accessFlags := fl
  thisClass := this
  superClass := sup
  interfaces := ifs
  fields := fds
  methods := ms
  attributes := attrs
def plain (name : String) (sup : Option ClassId) : Class where
  name := name
  kind := .ordinary
  loader := none
  accessFlags := 33
  super := sup
  interfaces := #[]
  cf := none
  fields := #[]
  methods := #[]
  instanceTypes := #[]
  staticTypes := #[]
  resolved := #[]
  callSites := []
  init := .initialized
  statics := none
  mirror := none

def pool0 : Array CpInfo := pool [(5, u "<init>"), (0, u "()V"), (1, .class_ 10), (1, u "java/lang/Object")] 113

def k0m0 : Method := { name := "<init>", desc := "()V", sig := { parameters := [], returnType := none }, accessFlags := 1, code := none }
/-- java/lang/Object -/
def k0 : Class := { plain "java/lang/Object" none with
  accessFlags := 33
  interfaces := #[]
  cf := some (fileOf pool0 8 #[] #[{ accessFlags := 1, nameIndex := 5, descriptorIndex := 6, attributes := #[] }] 33 0 #[] #[])
  fields := #[]
  methods := #[k0m0]
  instanceTypes := #[]
  staticTypes := #[]
  resolved := Array.replicate 124 none
  statics := none }

def pool1 : Array CpInfo := pool [(2, .class_ 4), (1, u "java/lang/Object"), (0, u "<init>"), (0, u "()V"), (0, .methodref 8 9), (0, .class_ 10), (0, .nameAndType 11 12), (0, u "com/example/forseti/forseti/core/VerilogOperators"), (0, u "of"), (0, u "(Z)Lcom/example/forseti/forseti/traces/LogicVector;"), (0, .methodref 14 15), (0, .class_ 16), (0, .nameAndType 17 18), (0, u "com/example/forseti/forseti/traces/LogicVector"), (0, u "width"), (0, u "()I"), (0, .fieldref 20 21), (0, .class_ 22), (0, .nameAndType 23 24), (0, u "com/example/forseti/forseti/traces/LogicValue"), (0, u "ONE"), (0, u "Lcom/example/forseti/forseti/traces/LogicValue;"), (0, .fieldref 20 26), (0, .nameAndType 27 24), (0, u "ZERO"), (0, .methodref 14 29), (0, .nameAndType 30 31), (0, u "bit"), (0, u "(I)Lcom/example/forseti/forseti/traces/LogicValue;"), (0, .class_ 33), (0, u "com/example/forseti/forseti/core/VerilogOperatorsOfPinLaw"), (2, u "law"), (0, u "(I)Z")] 3

def k1m0 : Method := { name := "<init>", desc := "()V", sig := { parameters := [], returnType := none }, accessFlags := 2, code := none }
def k1c1 : Code := { maxStack := 2, maxLocals := 4, code := code, exceptionTable := #[], attributes := #[] }
def k1m1 : Method := { name := "law", desc := "(I)Z", sig := { parameters := [.int], returnType := some .boolean }, accessFlags := 9, code := some k1c1 }
/-- com/example/forseti/forseti/core/VerilogOperatorsOfPinLaw -/
def k1 : Class := { plain "com/example/forseti/forseti/core/VerilogOperatorsOfPinLaw" (some 0) with
  accessFlags := 49
  interfaces := #[]
  cf := some (fileOf pool1 32 #[] #[{ accessFlags := 2, nameIndex := 5, descriptorIndex := 6, attributes := #[] }, { accessFlags := 9, nameIndex := 36, descriptorIndex := 37, attributes := #[] }] 49 2 #[] #[])
  fields := #[]
  methods := #[k1m0, k1m1]
  instanceTypes := #[]
  staticTypes := #[]
  resolved := Array.replicate 41 none
  statics := none }

def pool2 : Array CpInfo := pool [(2, .class_ 4), (1, u "java/lang/Object"), (0, u "<init>"), (0, u "()V"), (1, .class_ 10), (1, u "com/example/forseti/forseti/core/VerilogOperators"), (8, .fieldref 8 20), (0, .nameAndType 21 22), (0, u "TRUE"), (0, u "Lcom/example/forseti/forseti/traces/LogicVector;"), (0, .fieldref 8 24), (0, .nameAndType 25 22), (0, u "FALSE"), (21, .class_ 49), (1, u "com/example/forseti/forseti/core/VerilogOperators$1"), (36, u "of"), (65, u "COUNT_WIDTH"), (0, u "I"), (6, u "(Z)Lcom/example/forseti/forseti/traces/LogicVector;")] 50

def k2m0 : Method := { name := "<init>", desc := "()V", sig := { parameters := [], returnType := none }, accessFlags := 2, code := none }
def k2c1 : Code := { maxStack := 1, maxLocals := 1, code := prog_101_method_3_code, exceptionTable := #[], attributes := #[] }
def k2m1 : Method := { name := "of", desc := "(Z)Lcom/example/forseti/forseti/traces/LogicVector;", sig := { parameters := [.boolean], returnType := some (.object "com/example/forseti/forseti/traces/LogicVector") }, accessFlags := 8, code := some k2c1 }
/-- com/example/forseti/forseti/core/VerilogOperators -/
def k2 : Class := { plain "com/example/forseti/forseti/core/VerilogOperators" (some 0) with
  accessFlags := 48
  interfaces := #[]
  cf := some (fileOf pool2 8 #[.nestMembers #[47]] #[{ accessFlags := 2, nameIndex := 5, descriptorIndex := 6, attributes := #[] }, { accessFlags := 8, nameIndex := 86, descriptorIndex := 160, attributes := #[] }] 48 2 #[] #[{ accessFlags := 24, nameIndex := 25, descriptorIndex := 22, attributes := #[] }, { accessFlags := 24, nameIndex := 21, descriptorIndex := 22, attributes := #[] }, { accessFlags := 24, nameIndex := 152, descriptorIndex := 153, attributes := #[] }])
  fields := #[{ name := "FALSE", type := (.object "com/example/forseti/forseti/traces/LogicVector"), accessFlags := 24, slot := 0, constantValue := 0 }, { name := "TRUE", type := (.object "com/example/forseti/forseti/traces/LogicVector"), accessFlags := 24, slot := 1, constantValue := 0 }, { name := "COUNT_WIDTH", type := .int, accessFlags := 24, slot := 2, constantValue := 0 }]
  methods := #[k2m0, k2m1]
  instanceTypes := #[]
  staticTypes := #[(.object "com/example/forseti/forseti/traces/LogicVector"), (.object "com/example/forseti/forseti/traces/LogicVector"), .int]
  resolved := Array.replicate 211 none
  statics := some 0 }

def pool3 : Array CpInfo := pool [(2, .class_ 4), (1, u "java/lang/Object"), (2, .fieldref 8 9), (0, .class_ 10), (0, .nameAndType 11 12), (0, u "com/example/forseti/forseti/traces/LogicVector"), (0, u "bits"), (0, u "[Lcom/example/forseti/forseti/traces/LogicValue;"), (2, u "ONE_BIT"), (0, u "[Lcom/example/forseti/forseti/traces/LogicVector;"), (5, u "()I"), (79, u "MAX_WIDTH"), (0, u "I"), (9, u "width"), (0, u "bit"), (0, u "(I)Lcom/example/forseti/forseti/traces/LogicValue;")] 19

def k3c0 : Code := { maxStack := 1, maxLocals := 1, code := prog_145_method_5_code, exceptionTable := #[], attributes := #[] }
def k3m0 : Method := { name := "width", desc := "()I", sig := { parameters := [], returnType := some .int }, accessFlags := 1, code := some k3c0 }
def k3c1 : Code := { maxStack := 2, maxLocals := 2, code := prog_145_method_6_code, exceptionTable := #[], attributes := #[] }
def k3m1 : Method := { name := "bit", desc := "(I)Lcom/example/forseti/forseti/traces/LogicValue;", sig := { parameters := [.int], returnType := some (.object "com/example/forseti/forseti/traces/LogicValue") }, accessFlags := 1, code := some k3c1 }
/-- com/example/forseti/forseti/traces/LogicVector -/
def k3 : Class := { plain "com/example/forseti/forseti/traces/LogicVector" (some 0) with
  accessFlags := 49
  interfaces := #[]
  cf := some (fileOf pool3 8 #[] #[{ accessFlags := 1, nameIndex := 113, descriptorIndex := 22, attributes := #[] }, { accessFlags := 1, nameIndex := 114, descriptorIndex := 115, attributes := #[] }] 49 2 #[] #[{ accessFlags := 25, nameIndex := 102, descriptorIndex := 103, attributes := #[] }, { accessFlags := 26, nameIndex := 15, descriptorIndex := 16, attributes := #[] }, { accessFlags := 18, nameIndex := 11, descriptorIndex := 12, attributes := #[] }])
  fields := #[{ name := "MAX_WIDTH", type := .int, accessFlags := 25, slot := 0, constantValue := 0 }, { name := "ONE_BIT", type := (.array (.object "com/example/forseti/forseti/traces/LogicVector")), accessFlags := 26, slot := 1, constantValue := 0 }, { name := "bits", type := (.array (.object "com/example/forseti/forseti/traces/LogicValue")), accessFlags := 18, slot := 0, constantValue := 0 }]
  methods := #[k3m0, k3m1]
  instanceTypes := #[(.array (.object "com/example/forseti/forseti/traces/LogicValue"))]
  staticTypes := #[.int, (.array (.object "com/example/forseti/forseti/traces/LogicVector"))]
  resolved := Array.replicate 135 none
  statics := none }

def pool4 : Array CpInfo := pool [(1, .class_ 2), (0, u "java/lang/constant/Constable"), (0, .class_ 4), (0, u "java/lang/Object")] 6

/-- java/lang/constant/Constable -/
def k4 : Class := { plain "java/lang/constant/Constable" (some 0) with
  accessFlags := 1537
  interfaces := #[]
  cf := some (fileOf pool4 1 #[] #[] 1537 3 #[] #[])
  fields := #[]
  methods := #[]
  instanceTypes := #[]
  staticTypes := #[]
  resolved := Array.replicate 11 none
  statics := none }

def pool5 : Array CpInfo := pool [(1, .class_ 2), (0, u "java/lang/Comparable"), (0, .class_ 4), (0, u "java/lang/Object")] 7

/-- java/lang/Comparable -/
def k5 : Class := { plain "java/lang/Comparable" (some 0) with
  accessFlags := 1537
  interfaces := #[]
  cf := some (fileOf pool5 1 #[] #[] 1537 3 #[] #[])
  fields := #[]
  methods := #[]
  instanceTypes := #[]
  staticTypes := #[]
  resolved := Array.replicate 12 none
  statics := none }

def pool6 : Array CpInfo := pool [(1, .class_ 2), (0, u "java/io/Serializable"), (0, .class_ 4), (0, u "java/lang/Object")] 2

/-- java/io/Serializable -/
def k6 : Class := { plain "java/io/Serializable" (some 0) with
  accessFlags := 1537
  interfaces := #[]
  cf := some (fileOf pool6 1 #[] #[] 1537 3 #[] #[])
  fields := #[]
  methods := #[]
  instanceTypes := #[]
  staticTypes := #[]
  resolved := Array.replicate 7 none
  statics := none }

def pool7 : Array CpInfo := pool [(2, .class_ 4), (1, u "java/lang/Enum"), (0, u "name"), (0, u "Ljava/lang/String;"), (2, u "ordinal"), (0, u "I"), (1, .class_ 14), (1, u "java/lang/Object"), (4, u "hash"), (86, .class_ 108), (1, u "java/lang/Enum$EnumDesc"), (2, .class_ 112), (0, u "java/lang/constant/Constable"), (0, .class_ 114), (0, u "java/lang/Comparable"), (0, .class_ 116), (0, u "java/io/Serializable")] 87

/-- java/lang/Enum -/
def k7 : Class := { plain "java/lang/Enum" (some 0) with
  accessFlags := 1057
  interfaces := #[4, 5, 6]
  cf := some (fileOf pool7 2 #[.nestMembers #[106]] #[] 1057 12 #[111, 113, 115] #[{ accessFlags := 18, nameIndex := 5, descriptorIndex := 6, attributes := #[] }, { accessFlags := 18, nameIndex := 9, descriptorIndex := 10, attributes := #[] }, { accessFlags := 2, nameIndex := 19, descriptorIndex := 10, attributes := #[] }])
  fields := #[{ name := "name", type := (.object "java/lang/String"), accessFlags := 18, slot := 0, constantValue := 0 }, { name := "ordinal", type := .int, accessFlags := 18, slot := 1, constantValue := 0 }, { name := "hash", type := .int, accessFlags := 2, slot := 2, constantValue := 0 }]
  methods := #[]
  instanceTypes := #[(.object "java/lang/String"), .int, .int]
  staticTypes := #[]
  resolved := Array.replicate 204 none
  statics := none }

def pool8 : Array CpInfo := pool [(1, .class_ 2), (0, u "com/example/forseti/forseti/traces/LogicValue"), (2, u "ZERO"), (0, u "Lcom/example/forseti/forseti/traces/LogicValue;"), (2, u "ONE"), (2, u "X"), (2, u "Z"), (2, u "$VALUES"), (0, u "[Lcom/example/forseti/forseti/traces/LogicValue;"), (6, .class_ 28), (1, u "java/lang/Enum"), (8, u "symbol"), (0, u "C"), (2, u "spellings"), (0, u "Ljava/lang/String;"), (2, u "BY_SYMBOL")] 68

/-- com/example/forseti/forseti/traces/LogicValue -/
def k8 : Class := { plain "com/example/forseti/forseti/traces/LogicValue" (some 7) with
  accessFlags := 16433
  interfaces := #[]
  cf := some (fileOf pool8 1 #[] #[] 16433 26 #[] #[{ accessFlags := 16409, nameIndex := 5, descriptorIndex := 6, attributes := #[] }, { accessFlags := 16409, nameIndex := 9, descriptorIndex := 6, attributes := #[] }, { accessFlags := 16409, nameIndex := 12, descriptorIndex := 6, attributes := #[] }, { accessFlags := 16409, nameIndex := 15, descriptorIndex := 6, attributes := #[] }, { accessFlags := 26, nameIndex := 45, descriptorIndex := 19, attributes := #[] }, { accessFlags := 18, nameIndex := 37, descriptorIndex := 38, attributes := #[] }, { accessFlags := 18, nameIndex := 41, descriptorIndex := 42, attributes := #[] }, { accessFlags := 4122, nameIndex := 18, descriptorIndex := 19, attributes := #[] }])
  fields := #[{ name := "ZERO", type := (.object "com/example/forseti/forseti/traces/LogicValue"), accessFlags := 16409, slot := 0, constantValue := 0 }, { name := "ONE", type := (.object "com/example/forseti/forseti/traces/LogicValue"), accessFlags := 16409, slot := 1, constantValue := 0 }, { name := "X", type := (.object "com/example/forseti/forseti/traces/LogicValue"), accessFlags := 16409, slot := 2, constantValue := 0 }, { name := "Z", type := (.object "com/example/forseti/forseti/traces/LogicValue"), accessFlags := 16409, slot := 3, constantValue := 0 }, { name := "BY_SYMBOL", type := (.array (.object "com/example/forseti/forseti/traces/LogicValue")), accessFlags := 26, slot := 4, constantValue := 0 }, { name := "symbol", type := .char, accessFlags := 18, slot := 3, constantValue := 0 }, { name := "spellings", type := (.object "java/lang/String"), accessFlags := 18, slot := 4, constantValue := 0 }, { name := "$VALUES", type := (.array (.object "com/example/forseti/forseti/traces/LogicValue")), accessFlags := 4122, slot := 5, constantValue := 0 }]
  methods := #[]
  instanceTypes := #[(.object "java/lang/String"), .int, .int, .char, (.object "java/lang/String")]
  staticTypes := #[(.object "com/example/forseti/forseti/traces/LogicValue"), (.object "com/example/forseti/forseti/traces/LogicValue"), (.object "com/example/forseti/forseti/traces/LogicValue"), (.object "com/example/forseti/forseti/traces/LogicValue"), (.array (.object "com/example/forseti/forseti/traces/LogicValue")), (.array (.object "com/example/forseti/forseti/traces/LogicValue"))]
  resolved := Array.replicate 114 none
  statics := some 1 }

def pool9 : Array CpInfo := pool [(1, u "java/lang/Cloneable"), (0, .class_ 1), (0, u "java/lang/Object"), (0, .class_ 3)] 3

/-- java/lang/Cloneable -/
def k9 : Class := { plain "java/lang/Cloneable" (some 0) with
  accessFlags := 1537
  interfaces := #[]
  cf := some (fileOf pool9 2 #[] #[] 1537 4 #[] #[])
  fields := #[]
  methods := #[]
  instanceTypes := #[]
  staticTypes := #[]
  resolved := Array.replicate 8 none
  statics := none }

/-- the primitive byte -/
def k10 : Class := { plain "byte" none with kind := .primitive 'B', accessFlags := 0x411 }
/-- [B -/
def k11 : Class := { plain "[B" (some 0) with kind := .array 10 .byte, interfaces := #[9, 6], accessFlags := 1041 }

/-- the primitive int -/
def k12 : Class := { plain "int" none with kind := .primitive 'I', accessFlags := 0x411 }
/-- [I -/
def k13 : Class := { plain "[I" (some 0) with kind := .array 12 .int, interfaces := #[9, 6], accessFlags := 1041 }

/-- [Lcom/example/forseti/forseti/traces/LogicValue; -/
def k14 : Class := { plain "[Lcom/example/forseti/forseti/traces/LogicValue;" (some 0) with kind := .array 8 (.object "com/example/forseti/forseti/traces/LogicValue"), interfaces := #[9, 6], accessFlags := 1041 }

def heap : Heap := #[{ cls := 2, slots := #[.ref 6, .ref 7, .int 0], vm := .statics 2 },
  { cls := 8, slots := #[.ref 4, .ref 5, .null, .null, .null, .null], vm := .statics 8 },
  { cls := 14, slots := #[.ref 4], vm := .none },
  { cls := 14, slots := #[.ref 5], vm := .none },
  { cls := 8, slots := #[.null, .int 0, .int 0, .int 0, .null], vm := .none },
  { cls := 8, slots := #[.null, .int 1, .int 0, .int 0, .null], vm := .none },
  { cls := 3, slots := #[.ref 2], vm := .none },
  { cls := 3, slots := #[.ref 3], vm := .none }]
def classes : Array Class := #[k0, k1, k2, k3, k4, k5, k6, k7, k8, k9, k10, k11, k12, k13, k14]
def interned : List (Array UInt16 × Addr) := []
def slotsUsed : Nat := 23
def theMethod : MethodId := ⟨1, 1⟩
def args0 : Array Value := #[.int 5]
def aboutOver (below : List Frame) : State where
  vm := { classes := classes, interned := interned.toArray }
  heap := heap
  slotsUsed := slotsUsed
  threads := #[{ frames := .invoking theMethod args0 :: below }]
def below0 : List Frame := [.native { method := ⟨0, 0⟩, args := #[] }]
def about1 : State := aboutOver below0
def p0 : Program := .bare "" "" ""
def e0 : Env := launch0.env 0 0 0
theorem w_frames : about1.frames = Frame.invoking theMethod args0 :: below0 := rfl
set_option maxRecDepth 65536 in
theorem w_args : argsFit about1.vm theMethod args0 = true := by decide +kernel
set_option maxRecDepth 65536 in
theorem w_heap : heapFits about1 = true := by decide +kernel
set_option maxRecDepth 65536 in
theorem w_runnable : about1.curStatus? = some .runnable := by decide +kernel
set_option maxRecDepth 65536 in
theorem w_alone : about1.alone = true := by decide +kernel
set_option maxRecDepth 65536 in
theorem w_named : about1.methodNamed? x = some theMethod := by decide +kernel
set_option maxRecDepth 65536 in
theorem w_hears : about1.hears theMethod below0 = true := by decide +kernel
set_option maxRecDepth 65536 in
theorem w_ripe : about1.ripe theMethod args0 below0 = true := by decide +kernel
theorem w_running : about1.status = .running := rfl
set_option maxRecDepth 65536 in
theorem w_room : about1.hasRoom e0.platform room_1 = true :=
  launch0.hasRoom_least _ room_1 (by decide +kernel) (by decide +kernel) (by decide +kernel) (by decide +kernel) (by decide +kernel) (by decide +kernel)
theorem allAtoms_all (ts : List Jvm.Cond) (a : Array Jvm.Value) (st : Jvm.State) : (allAtoms ts).before a st = ts.all (fun c => c.before a st) := by
  induction ts with
  | nil => rfl
  | cons c t ih =>
    show (Jvm.Cond.and c (allAtoms t)).before a st = _
    rw [Jvm.Cond.before_and, ih, List.all_cons]
def words1 : List Jvm.Cond := Jvm.Cond.code x code maxLocals ret :: tables_1
/-- a 'code' word, met by the world's own term for the bytes: nothing is compared byte by byte -/
theorem code_word {y : MethodName} {bytes : ByteArray} {mx : Nat} {rt : Option FieldType} {a : Array Value} {s : State} {m : MethodId} {meth : Method} {c : Code} (h1 : s.methodNamed? y = some m) (h2 : s.vm.method? m = some meth) (h3 : meth.code = some c) (h4 : c.code = bytes)
    (h5 : (c.maxLocals == mx && c.exceptionTable.isEmpty && decide (c.maxStack ≤ mostOperands) && decide (meth.sig.returnType = rt) && !meth.locks && decide (parseMethodDescriptor y.desc = some meth.sig)) = true) : (Jvm.Cond.code y bytes mx rt).before a s = true := by
  simp only [Bool.and_eq_true, beq_iff_eq, Bool.not_eq_true', decide_eq_true_eq] at h5
  obtain ⟨⟨⟨⟨⟨g1, g2⟩, g3⟩, g4⟩, g5⟩, g6⟩ := h5
  simp [Cond.before, Cond.holds, Cond.value, h1, h2, h3, h4, g1, g2, g3, g4, g5, g6]
def isCode : Jvm.Cond → Bool
  | .code _ _ _ _ => true
  | _ => false
theorem all_split {L : List Jvm.Cond} {P : Jvm.Cond → Bool} (h1 : L.all (fun c => isCode c || P c) = true) (h2 : ∀ c ∈ L.filter isCode, P c = true) : L.all P = true := by
  refine List.all_eq_true.mpr fun c hc => ?_
  have h := List.all_eq_true.mp h1 c hc
  rcases Bool.eq_false_or_eq_true (isCode c) with hi | hi
  · exact h2 c (List.mem_filter.mpr ⟨hc, hi⟩)
  · simpa [hi] using h
set_option maxRecDepth 65536 in
theorem w_c0 : (Jvm.Cond.code x code maxLocals ret).before args0 about1 = true := code_word (m := ⟨1, 1⟩) (meth := k1m1) (c := k1c1) (by decide +kernel) rfl rfl rfl (by decide +kernel)
set_option maxRecDepth 65536 in
theorem w_c1 : (Jvm.Cond.code ({ cls := "com/example/forseti/forseti/core/VerilogOperators", name := "of", desc := "(Z)Lcom/example/forseti/forseti/traces/LogicVector;" } : Jvm.MethodName) prog_101_method_3_code (1 : Nat) (Option.some (Jvm.ClassFile.FieldType.object "com/example/forseti/forseti/traces/LogicVector"))).before args0 about1 = true := code_word (m := ⟨2, 1⟩) (meth := k2m1) (c := k2c1) (by decide +kernel) rfl rfl rfl (by decide +kernel)
set_option maxRecDepth 65536 in
theorem w_c2 : (Jvm.Cond.code ({ cls := "com/example/forseti/forseti/traces/LogicVector", name := "width", desc := "()I" } : Jvm.MethodName) prog_145_method_5_code (1 : Nat) (Option.some Jvm.ClassFile.FieldType.int)).before args0 about1 = true := code_word (m := ⟨3, 0⟩) (meth := k3m0) (c := k3c0) (by decide +kernel) rfl rfl rfl (by decide +kernel)
set_option maxRecDepth 65536 in
theorem w_c3 : (Jvm.Cond.code ({ cls := "com/example/forseti/forseti/traces/LogicVector", name := "bit", desc := "(I)Lcom/example/forseti/forseti/traces/LogicValue;" } : Jvm.MethodName) prog_145_method_6_code (2 : Nat) (Option.some (Jvm.ClassFile.FieldType.object "com/example/forseti/forseti/traces/LogicValue"))).before args0 about1 = true := code_word (m := ⟨3, 1⟩) (meth := k3m1) (c := k3c1) (by decide +kernel) rfl rfl rfl (by decide +kernel)
def codes1 : List Jvm.Cond := [Jvm.Cond.code x code maxLocals ret, Jvm.Cond.code ({ cls := "com/example/forseti/forseti/core/VerilogOperators", name := "of", desc := "(Z)Lcom/example/forseti/forseti/traces/LogicVector;" } : Jvm.MethodName) prog_101_method_3_code (1 : Nat) (Option.some (Jvm.ClassFile.FieldType.object "com/example/forseti/forseti/traces/LogicVector")), Jvm.Cond.code ({ cls := "com/example/forseti/forseti/traces/LogicVector", name := "width", desc := "()I" } : Jvm.MethodName) prog_145_method_5_code (1 : Nat) (Option.some Jvm.ClassFile.FieldType.int), Jvm.Cond.code ({ cls := "com/example/forseti/forseti/traces/LogicVector", name := "bit", desc := "(I)Lcom/example/forseti/forseti/traces/LogicValue;" } : Jvm.MethodName) prog_145_method_6_code (2 : Nat) (Option.some (Jvm.ClassFile.FieldType.object "com/example/forseti/forseti/traces/LogicValue"))]
set_option maxRecDepth 65536 in
theorem codes_eq : words1.filter isCode = codes1 := rfl
theorem w_codes : ∀ c ∈ words1.filter isCode, c.before args0 about1 = true := by
  rw [codes_eq]
  intro c hc
  simp only [codes1, List.mem_cons, List.not_mem_nil, or_false] at hc
  rcases hc with rfl | rfl | rfl | rfl
  · exact w_c0
  · exact w_c1
  · exact w_c2
  · exact w_c3
set_option maxRecDepth 65536 in
theorem w_t1 : (words1.take 24).all (fun c => isCode c || c.before args0 about1) = true := by decide +kernel
set_option maxRecDepth 65536 in
theorem w_t2 : (words1.drop 24).all (fun c => isCode c || c.before args0 about1) = true := by decide +kernel
theorem w_tables : (allAtoms (Jvm.Cond.code x code maxLocals ret :: tables_1)).before args0 about1 = true := by
  rw [allAtoms_all]
  show words1.all (fun c => c.before args0 about1) = true
  refine all_split ?_ w_codes
  rw [← List.take_append_drop 24 words1, List.all_append, w_t1, w_t2]
  rfl
set_option maxRecDepth 65536 in
theorem w_case : (Jvm.Cond.and given_1 narrow_1).before args0 about1 = true := by decide +kernel
theorem w_applies : (headSpec (Jvm.Cond.code x code maxLocals ret :: tables_1) room_1).applies x e0.platform about1 = true :=
  (Spec.applies_iff w_frames).mpr ⟨w_running, w_runnable, w_alone, w_named, w_hears, w_ripe, w_room, w_tables⟩
theorem atStart : AtStart classFile x code maxLocals ret World_1 tables_1 room_1 Calls_1 rest_1 Pre_1 launch0 p0 e0 about1 theMethod args0 below0 :=
  ⟨lists_1, trivial, launch0.admits_env _ _ _, launch0.least_env, fairChoices_fair.cas, fairChoices_fair.clock, w_frames, w_args, w_heap, w_applies, trivial, trivial, w_case⟩
end start1
theorem witness_1 : WitnessClaimed_1 := ⟨start1.p0, start1.e0, start1.about1, start1.theMethod, start1.args0, start1.below0, start1.atStart⟩
end Jvm.Pilot.@@N@@
