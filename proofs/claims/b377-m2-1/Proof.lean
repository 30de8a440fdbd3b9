import JvmDerived
import JvmDerived.Pilot.@@N@@Statement
import JvmDerived.Pilot.@@N@@Code
set_option linter.unusedVariables false
set_option linter.unusedSimpArgs false
namespace Jvm.RoadKit
open Sem ClassFile Op Lib Jvm.Stand Jvm.Free Jvm.LawKit
section New
variable {p : Program} {l : Launch} {e : Env} {R : Room} {s : State} {m : MethodId} {args : Array Value} {below : List Frame} {meth : Method} {c : Code} {T : State} {locs : List Loc} {cells slots : Nat}
theorem retI (X : Stand p l e R s m args below meth c T locs cells slots) (hx : p.tables.exec = Jvm.exec) {pc : Nat} {Ls : Array Slot} {z : Int32} {rest : List Value} (hret : meth.sig.returnType = some .int) (hd : decode c.code pc = .ok (.ireturn, 1)) {fs : List Frame}
    (hl : ∀ (f : JFrame) (acts : List Action), f.method = m → f.locked = none → f.entered = [] → (doReturn e (T.setTop f) acts (some (.int z))).1 = T.setFrames fs) : Steps p.tables e below (T.setTop (mkF m pc Ls (.int z :: rest))) (T.setFrames fs) :=
  retOut X hx hret rfl (Or.inl ⟨rfl, Or.inl rfl, z, rfl⟩) hd hl
theorem retJ (X : Stand p l e R s m args below meth c T locs cells slots) (hx : p.tables.exec = Jvm.exec) {pc : Nat} {Ls : Array Slot} {z : Int64} {rest : List Value} (hret : meth.sig.returnType = some .long) (hd : decode c.code pc = .ok (.lreturn, 1)) {fs : List Frame}
    (hl : ∀ (f : JFrame) (acts : List Action), f.method = m → f.locked = none → f.entered = [] → (doReturn e (T.setTop f) acts (some (.long z))).1 = T.setFrames fs) : Steps p.tables e below (T.setTop (mkF m pc Ls (.long z :: rest))) (T.setFrames fs) :=
  retOut X hx hret rfl (Or.inr (Or.inl ⟨rfl, rfl, z, rfl⟩)) hd hl
theorem retA (X : Stand p l e R s m args below meth c T locs cells slots) (hx : p.tables.exec = Jvm.exec) {pc : Nat} {Ls : Array Slot} {w : Value} {rest : List Value} {t : FieldType} (hret : meth.sig.returnType = some t) (ht : t.isReference = true) (hn : narrow t w = w) (hw : w.isRef = true) (hd : decode c.code pc = .ok (.areturn, 1)) {fs : List Frame}
    (hl : ∀ (f : JFrame) (acts : List Action), f.method = m → f.locked = none → f.entered = [] → (doReturn e (T.setTop f) acts (some w)).1 = T.setFrames fs) : Steps p.tables e below (T.setTop (mkF m pc Ls (w :: rest))) (T.setFrames fs) :=
  retOut X hx hret hn (Or.inr (Or.inr (Or.inr (Or.inr ⟨rfl, ht, hw⟩)))) hd hl
end New
end Jvm.RoadKit
namespace Jvm.Pilot.@@N@@
open Jvm Jvm.ClassFile Sem Op Lib Jvm.Free Jvm.Stand Jvm.LawKit Jvm.RoadKit Bundle Jvm.Pilot.@@N@@.Jvm.D
theorem own_ext {h0 h : Heap} (K : Keep h0 h []) : Ext h0 h := ⟨K.1, fun a c q => K.2.1 a c q nin0⟩

def own_ms (x y : Int64) : Int64 := if x < y then x else if y < x then y else if x = (9223372036854775807 : Int64) then x - (1 : Int64) else x
def own_me (x y : Int64) : Int64 := if x < y then y else if y < x then x else if x = (9223372036854775807 : Int64) then x else x + (1 : Int64)
def own_eq (s1 e1 s2 e2 : Int64) : Int32 := if s1 = s2 then (if e1 = e2 then 1 else 0) else 0
theorem own_eq_comm (s1 e1 s2 e2 : Int64) : own_eq s2 e2 s1 e1 = own_eq s1 e1 s2 e2 := by
  unfold own_eq
  by_cases h : s1 = s2
  · by_cases g : e1 = e2
    · simp [h, g]
    · have g' : ¬ e2 = e1 := fun q => g q.symm
      simp [h, g, g']
  · have h' : ¬ s2 = s1 := fun q => h q.symm
    simp [h, h']
theorem own_eq_self (s e : Int64) : own_eq s e s e = 1 := by simp [own_eq]
theorem own_lt1 {x : Int64} (h : x = (9223372036854775807 : Int64)) : (x - (1 : Int64)) < x := by subst h; decide
theorem own_lt2 {x : Int64} (h : ¬ (x = (9223372036854775807 : Int64))) : x < (x + (1 : Int64)) := by
  have h1 := c_ladd x 1
  have h2 := rng64 x
  have h3 := rng64 (x + 1)
  have h4 : (1 : Int64).toInt = 1 := by decide
  have h5 : (9223372036854775807 : Int64).toInt = 9223372036854775807 := by decide
  have h6 : x.toInt ≠ 9223372036854775807 := fun q => h (Int64.toInt_inj.mp (by rw [q, h5]))
  rw [Int64.lt_iff_toInt_lt]
  omega
theorem own_idx {x : Int64} (h1 : ¬ (x < (-128 : Int64))) (h2 : ¬ ((127 : Int64) < x)) : ¬ (x.toInt32 + (128 : Int32)) < 0 ∧ (x.toInt32 + (128 : Int32)) < (256 : Int32) := by
  have k1 : (-128 : Int64).toInt = -128 := by decide
  have k2 : (127 : Int64).toInt = 127 := by decide
  have k3 : (128 : Int32).toInt = 128 := by decide
  have k4 : (256 : Int32).toInt = 256 := by decide
  have k5 : (0 : Int32).toInt = 0 := by decide
  have a1 := c_l2i x
  have a2 := c_iadd x.toInt32 128
  have a3 := rng32 x.toInt32
  have a4 := rng32 (x.toInt32 + 128)
  rw [Int64.lt_iff_toInt_lt] at h1 h2
  rw [Int32.lt_iff_toInt_lt, Int32.lt_iff_toInt_lt]
  omega
theorem own_found {Z : State} {a0 : Array Value} {K : String} {n : Nat} (w : (Cond.instantiable K n).before a0 Z = true) : ∃ t k, Z.vm.findClass K = some t ∧ Z.vm.classes[t]? = some k ∧ k.kind = .ordinary ∧ k.isInterface = false := by
  obtain ⟨t, k, h1, h2, h3, h4, -⟩ := Cond.instantiable_spec w
  rw [Bool.or_eq_false_iff] at h4
  exact ⟨t, k, h1, h2, h3, h4.1⟩
theorem own_root {Z : State} {a0 : Array Value} {O K : String} {n : Nat} (w : (Cond.noSuperclass O).before a0 Z = true) (wk : (Cond.instantiable K n).before a0 Z = true) (hn : O ≠ K) : NS Z O K := by
  obtain ⟨c, k, h1, h2, h3, -, -⟩ := Cond.noSuperclass_spec w
  obtain ⟨t, _, g1, -⟩ := own_found wk
  have ne := ids_ne h1 g1 hn
  refine ⟨c, t, h1, g1, fun fuel => ?_⟩
  cases fuel with
  | zero => rfl
  | succ f => simp [Vm.isSubclassAux, ne, h2, h3]
theorem own_no {Z : State} {a0 : Array Value} {C S K : String} {n : Nat} (w : (Cond.superclass C S).before a0 Z = true) (wk : (Cond.instantiable K n).before a0 Z = true) (ns : NS Z C K) (hn : C ≠ K) : ∃ c t, Z.vm.findClass C = some c ∧ Z.vm.findClass K = some t ∧ Z.vm.assignable c t = false := by
  obtain ⟨c, t, h0, g0, n3⟩ := ns
  obtain ⟨p, k, kp, h1, h2, h3, h4, h5, -, h7⟩ := Cond.superclass_spec h0 w
  obtain ⟨t', k', g1, g2, g5, g7⟩ := own_found wk
  cases g0.symm.trans g1
  have ne := ids_ne h0 g0 hn
  refine ⟨c, t, h0, g0, ?_⟩
  show Z.vm.assignableAux (255 + 1) c t = false
  simp [Vm.assignableAux, ne, h2, g2, h5, g5, g7, Vm.isSubclass, n3]

theorem own_len {args : Array Value} {s : State} {t : Term} {a : Addr} {c : Cell} {ty : FieldType} {n : Int32} (ev : t.eval args s none [] s = some (.ref a)) (A : Arr s s.heap a c ty) (h : (Cond.eq (.length t) (.int n)).value args s none s [] = some true) (hn : ¬ n < 0) : c.slots.size = n.toNatClampNeg := by
  have ha : s.arrayAt? a = some c := A.fin (Vm.Alike.refl _)
  by_cases q : c.slots.size < 2 ^ 31
  · have e1 := len_f ev ha q
    have e2 : (Term.int n).eval args s none [] s = some (.int n) := rfl
    simp [Cond.value, e1, e2] at h
    rw [← h]
    have := len_toInt q
    have h3 : c.slots.size.toInt32.toNatClampNeg = c.slots.size := by
      rw [Int32.toNatClampNeg, this]; simp
    exact h3.symm
  · have e1 : (Term.length t).eval args s none [] s = none := by simp [Term.eval, ev, ha]; omega
    simp [Cond.value, e1] at h
theorem own_exa {args : Array Value} {s : State} {idx : List Nat} {t : Term} {C : String} {a : Addr} (ev : t.eval args s none idx s = some (.ref a)) (h : (Cond.exactly t C).value args s none s idx = some true) : Exa s s.heap a C := by
  obtain ⟨a', c', cell, k, e1, e2, e3, e4, e5, rfl, e7⟩ := Cond.exactly_spec (beq_iff_eq.mpr h : (Cond.exactly t C).holds args s none s idx = true)
  cases ev.symm.trans e1
  exact ⟨cell, k, e3, e2, e4, e5, e7⟩
theorem own_cache {args : Array Value} {s : State} {C f d K : String} {D : Jvm.Cond} {a : Addr} {cl : Cell} {ty : FieldType} {j : Int32} (ev : (Term.static C f d).eval args s none [] s = some (.ref a)) (A : Arr s s.heap a cl ty) (h : (Cond.all (.static C f d) (.and (.exactly (.elem (.static C f d) (.index 0)) K) D)).value args s none s [] = some true) (hj : ¬ (j < 0 ∨ cl.slots.size ≤ j.toNatClampNeg)) :
    ∃ o : Addr, cl.slots[j.toNatClampNeg]? = some (.ref o) ∧ Exa s s.heap o K := by
  have ha : s.arrayAt? a = some cl := A.fin (Vm.Alike.refl _)
  have j0 : ¬ j < 0 := fun q => hj (Or.inl q)
  have ix : (Term.index 0).eval args s none [j.toNatClampNeg] s = some (.int j) := by
    show some (Value.int j.toNatClampNeg.toInt32) = _
    rw [(back32 j0).1]
  have h1 := (and_e (Cond.all_elim ev ha h _ (Nat.lt_of_not_le fun q => hj (Or.inr q)))).1
  obtain ⟨o, e⟩ := exa_v h1
  refine ⟨o, ?_, own_exa e h1⟩
  rw [← elem_f (o := none) (first := s) (idx := [j.toNatClampNeg]) (t := .static C f d) ev ix ha j0]
  exact e
theorem own_pn0 : plainName "java/lang/Number" = true := by first | (simp [plainName, overriddenIn]; done) | decide +kernel
theorem own_d9_0 : decode jdk_18_method_1_code 0 = .ok (.aload_n 0, 1) := by decide +kernel
theorem own_d9_1 : decode jdk_18_method_1_code 1 = .ok (.invokespecial 1, 3) := by decide +kernel
theorem own_d9_4 : decode jdk_18_method_1_code 4 = .ok (.return_, 1) := by decide +kernel
def own_Q9 (Z : State) (xthis : Addr) (h0 : Heap) (n0 : Nat) (v : Option Value) (h : Heap) (L : List Loc) : Prop := v = none ∧ Fr n0 L ∧ h = h0
theorem own_ef9 (m : MethodId) (xthis : Addr) : entryFrame m #[(.ref xthis)] 1 = mkF m 0 #[.val (.ref xthis)] [] := by first | (simp [entryFrame, mkF, argsToLocals, Value.category]; done) | rfl
set_option maxRecDepth 65536 in
set_option maxHeartbeats 40000000 in
theorem own_rm9 (l : Launch) (Z : State) (a0 : Array Value) (hw : ∀ d ∈ tables_1, d.before a0 Z = true) (ws : List Jvm.Cond) (xthis : Addr) (h0 : Heap) (n0 : Nat) (Z0 : n0 ≤ h0.size)  :
    MetFree l (⟨"java/lang/Number", "<init>", "()V"⟩ : MethodName) (head1 (Jvm.Cond.code (⟨"java/lang/Number", "<init>", "()V"⟩ : MethodName) jdk_18_method_1_code 1 none :: ws) ({ frames := 1, cells := 0, slots := 0, locals := 12 } : Room)) (fun a U => a = #[(.ref xthis)] ∧ Z.Warmed39 U.vm ∧ U.heap = h0) (fun _ _ _ _ _ => True) (fun _ U o U' => ∃ v L, o = .returned v ∧ own_Q9 Z xthis h0 n0 v U'.heap L ∧ FrameEnd U o U' L ({ frames := 1, cells := 0, slots := 0, locals := 12 } : Room).cells ({ frames := 1, cells := 0, slots := 0, locals := 12 } : Room).slots) := by
  refine MetFree.of_bodySF (plainFor_of_name own_pn0) hisR ?_
  intro p e s m args below meth c s₁ Bd hml0 hP hK
  obtain ⟨rfl, hZ, hh⟩ := hP
  have hx := Bd.exec
  have hby := Bd.bytes
  have hml : c.maxLocals = 1 := hml0
  have hown : s.vm.findClass "java/lang/Number" = some m.cls := findClass_of_methodNamed Bd.named
  have hnm := (name_of_methodNamed Bd.named Bd.method).1
  have X0 : Stand p l e ({ frames := 1, cells := 0, slots := 0, locals := 12 } : Room) s m #[(.ref xthis)] below meth c s₁ [] 0 0 := Stand.of_body Bd
  have e0 : s₁.heap = h0 := by rw [← hh, Bd.state]; rfl
  have N0 := Fr.nil n0
  have pre0 : ∀ t, Steps p.tables e below (s₁.setTop (mkF m 0 #[.val (.ref xthis)] [])) t → Steps p.tables e below (s₁.setTop (entryFrame m #[(.ref xthis)] 1)) t := fun t k => castTop (own_ef9 m xthis) k
  obtain ⟨T1, X1, e1, st1⟩ := initO X0 hx hZ hown (hw _ (List.mem_of_getElem? (i := 57) rfl)) (hw _ (List.mem_of_getElem? (i := 11) rfl)) (hw _ (List.mem_of_getElem? (i := 12) rfl)) e0 (g := (mkF m 1 #[.val (.ref xthis)] [(.ref xthis)])) rfl (by rw [hml]; rfl) rfl (hb hby own_d9_1) (by decide) (W := 0) (by show 2 * 0 + _ ≤ _; exact Nat.le_of_eq rfl) (by decide)
  obtain ⟨fs, hr, hrun, hended, hW, hsame⟩ := X1.leave (v := none) (fun _ => rfl)
  refine ⟨_, _, pre0 _ ?_, hrun, hended, _, _, rfl, ?_, ⟨_, rfl⟩, hW, hsame.mono (by decide) (by decide)⟩
  · show Steps p.tables e below (s₁.setTop (mkF m 0 #[.val (.ref xthis)] [])) _
    refine XS.aloadN X0.here hx rfl (hb hby own_d9_0) rfl rfl ?_
    show Steps p.tables e below (s₁.setTop (mkF m 1 #[.val (.ref xthis)] [(.ref xthis)])) _
    refine st1 _ ?_
    show Steps p.tables e below (T1.setTop (mkF m 4 #[.val (.ref xthis)] [])) _
    exact X1.returnOut hx Bd.returns (hb hby own_d9_4) hr
  · show own_Q9 Z xthis h0 n0 _ T1.heap _
    rw [e1]
    exact ⟨rfl, N0, rfl⟩
theorem own_pn1 : plainName "java/lang/Long" = true := by first | (simp [plainName, overriddenIn]; done) | decide +kernel
theorem own_pd0 : parseMethodDescriptor "()V" = some ⟨[], none⟩ := by decide +kernel
theorem own_d8_0 : decode jdk_35_method_26_code 0 = .ok (.aload_n 0, 1) := by decide +kernel
theorem own_d8_1 : decode jdk_35_method_26_code 1 = .ok (.invokespecial 270, 3) := by decide +kernel
theorem own_d8_4 : decode jdk_35_method_26_code 4 = .ok (.aload_n 0, 1) := by decide +kernel
theorem own_d8_5 : decode jdk_35_method_26_code 5 = .ok (.lload_n 1, 1) := by decide +kernel
theorem own_d8_6 : decode jdk_35_method_26_code 6 = .ok (.putfield 273, 3) := by decide +kernel
theorem own_d8_9 : decode jdk_35_method_26_code 9 = .ok (.return_, 1) := by decide +kernel
def own_Q8 (Z : State) (xthis : Addr) (x1 : Int64) (h0 : Heap) (n0 : Nat) (v : Option Value) (h : Heap) (L : List Loc) : Prop := v = none ∧ Fr n0 L ∧ Keep h0 h [xthis] ∧ Exa Z h xthis "java/lang/Long" ∧ Fld Z h xthis "java/lang/Long" "value" "J" (.long x1)
theorem own_ef8 (m : MethodId) (xthis : Addr) (x1 : Int64) : entryFrame m #[(.ref xthis), (.long x1)] 3 = mkF m 0 #[.val (.ref xthis), .val (.long x1), .second] [] := by first | (simp [entryFrame, mkF, argsToLocals, Value.category]; done) | rfl
set_option maxRecDepth 65536 in
set_option maxHeartbeats 40000000 in
theorem own_rm8 (l : Launch) (Z : State) (a0 : Array Value) (hw : ∀ d ∈ tables_1, d.before a0 Z = true) (ws : List Jvm.Cond) (xthis : Addr) (x1 : Int64) (h0 : Heap) (n0 : Nat) (Z0 : n0 ≤ h0.size) (E_xthis : Exa Z h0 xthis "java/lang/Long") (F_value_xthis : Fld Z h0 xthis "java/lang/Long" "value" "J" (.long (0 : Int64))) (g_xthis : n0 ≤ xthis) :
    MetFree l (⟨"java/lang/Long", "<init>", "(J)V"⟩ : MethodName) (head1 (Jvm.Cond.code (⟨"java/lang/Long", "<init>", "(J)V"⟩ : MethodName) jdk_35_method_26_code 3 none :: ws) ({ frames := 2, cells := 0, slots := 0, locals := 24 } : Room)) (fun a U => a = #[(.ref xthis), (.long x1)] ∧ Z.Warmed39 U.vm ∧ U.heap = h0) (fun _ _ _ _ _ => True) (fun _ U o U' => ∃ v L, o = .returned v ∧ own_Q8 Z xthis x1 h0 n0 v U'.heap L ∧ FrameEnd U o U' L ({ frames := 2, cells := 0, slots := 0, locals := 24 } : Room).cells ({ frames := 2, cells := 0, slots := 0, locals := 24 } : Room).slots) := by
  refine MetFree.of_bodySF (plainFor_of_name own_pn1) hisR ?_
  intro p e s m args below meth c s₁ Bd hml0 hP hK
  obtain ⟨rfl, hZ, hh⟩ := hP
  have hx := Bd.exec
  have hby := Bd.bytes
  have hml : c.maxLocals = 3 := hml0
  have hown : s.vm.findClass "java/lang/Long" = some m.cls := findClass_of_methodNamed Bd.named
  have hnm := (name_of_methodNamed Bd.named Bd.method).1
  have X0 : Stand p l e ({ frames := 2, cells := 0, slots := 0, locals := 24 } : Room) s m #[(.ref xthis), (.long x1)] below meth c s₁ [] 0 0 := Stand.of_body Bd
  have e0 : s₁.heap = h0 := by rw [← hh, Bd.state]; rfl
  have N0 := Fr.nil n0
  have pre0 : ∀ t, Steps p.tables e below (s₁.setTop (mkF m 0 #[.val (.ref xthis), .val (.long x1), .second] [])) t → Steps p.tables e below (s₁.setTop (entryFrame m #[(.ref xthis), (.long x1)] 3)) t := fun t k => castTop (own_ef8 m xthis x1) k
  have K0 : Keep h0 h0 [xthis] := Keep.refl _ _
  obtain ⟨_, _, ⟨T1, L1, k1, n1⟩, -, X1, ⟨Lc1, hQ1, l1, y1, z1⟩, st1⟩ := X0.specialBack hx (y := (⟨"java/lang/Number", "<init>", "()V"⟩ : MethodName)) rfl hown (mvT hZ (hw _ (List.mem_of_getElem? (i := 51) rfl))) (mvT hZ (hw _ (List.mem_of_getElem? (i := 52) rfl))) (mvT hZ (hw _ (List.mem_of_getElem? (i := 56) rfl))) (by decide) (backOf (W := 0) (own_rm9 l Z a0 hw [] xthis h0 n0 Z0 ) hZ (hw _ (List.mem_of_getElem? (i := 56) rfl)) (hw _ (List.mem_of_getElem? (i := 55) rfl)) (by decide) (by decide)) (g := (mkF m 1 #[.val (.ref xthis), .val (.long x1), .second] [(.ref xthis)])) rfl (by rw [hml]; rfl) (Steps.refl _) (a := xthis) (argsL := []) (rest := []) (lenOf own_pd0 rfl) rfl (by show 2 * 0 + _ ≤ _; exact Nat.le_of_eq rfl) (hb hby own_d8_1) (fun _ _ => ⟨rfl, e0, (by decide : 0 + 0 ≤ _), (by decide : 0 + 0 ≤ _)⟩)
  dsimp only [Pt.U, Pt.locs, Pt.cells, Pt.slots] at X1 l1 y1 z1 st1 hQ1
  subst l1 y1 z1
  obtain ⟨rfl, N1q, eh1⟩ := hQ1
  have N1 := Fr.app N0 N1q
  obtain ⟨T2, h2, X2, e2, W2, st2⟩ := putF X1 hx hZ hown (host := "") (Or.inl (hw _ (List.mem_of_getElem? (i := 58) rfl))) Via.refl eh1 F_value_xthis E_xthis (Or.inr ⟨(hw _ (List.mem_of_getElem? (i := 59) rfl)), rfl, hnm⟩) (hw _ (List.mem_of_getElem? (i := 46) rfl)) (ty := .long) (by decide) rfl rfl (g := (mkF m 6 #[.val (.ref xthis), .val (.long x1), .second] [(.long x1), (.ref xthis)])) rfl rfl (hb hby own_d8_6)
  have F3 : Fld Z h2 xthis "java/lang/Long" "value" "J" (.long x1) := F_value_xthis.same W2
  have F4 : Exa Z h2 xthis "java/lang/Long" := E_xthis.wr W2
  have N2 := Fr.snoc X2 N1 g_xthis
  have Z2 : n0 ≤ h2.size := Nat.le_trans Z0 (Keep.of_wr W2).1
  have K2 : Keep h0 h2 [xthis] := K0.wr W2 (Or.inl (List.mem_of_getElem? (i := 0) rfl))
  obtain ⟨fs, hr, hrun, hended, hW, hsame⟩ := X2.leave (v := none) (fun _ => rfl)
  refine ⟨_, _, pre0 _ ?_, hrun, hended, _, _, rfl, ?_, ⟨_, rfl⟩, hW, hsame.mono (by decide) (by decide)⟩
  · show Steps p.tables e below (s₁.setTop (mkF m 0 #[.val (.ref xthis), .val (.long x1), .second] [])) _
    refine XS.aloadN X0.here hx rfl (hb hby own_d8_0) rfl rfl ?_
    show Steps p.tables e below (s₁.setTop (mkF m 1 #[.val (.ref xthis), .val (.long x1), .second] [(.ref xthis)])) _
    refine st1.trans ?_
    show Steps p.tables e below (T1.setTop (mkF m 4 #[.val (.ref xthis), .val (.long x1), .second] [])) _
    refine XS.aloadN X1.here hx rfl (hb hby own_d8_4) rfl rfl ?_
    show Steps p.tables e below (T1.setTop (mkF m 5 #[.val (.ref xthis), .val (.long x1), .second] [(.ref xthis)])) _
    refine XS.lloadN X1.here hx rfl (hb hby own_d8_5) rfl ?_
    show Steps p.tables e below (T1.setTop (mkF m 6 #[.val (.ref xthis), .val (.long x1), .second] [(.long x1), (.ref xthis)])) _
    refine st2 _ ?_
    show Steps p.tables e below (T2.setTop (mkF m 9 #[.val (.ref xthis), .val (.long x1), .second] [])) _
    exact X2.returnOut hx Bd.returns (hb hby own_d8_9) hr
  · show own_Q8 Z xthis x1 h0 n0 _ T2.heap _
    rw [e2]
    exact ⟨rfl, N2, K2, F4, F3⟩
theorem own_pd1 : parseMethodDescriptor "(J)V" = some ⟨[.long], none⟩ := by decide +kernel
theorem own_d7_0 : decode jdk_35_method_24_code 0 = .ok (.sipush 128, 3) := by decide +kernel
theorem own_d7_3 : decode jdk_35_method_24_code 3 = .ok (.istore_n 2, 1) := by decide +kernel
theorem own_d7_4 : decode jdk_35_method_24_code 4 = .ok (.lload_n 0, 1) := by decide +kernel
theorem own_d7_5 : decode jdk_35_method_24_code 5 = .ok (.ldc2_w 230, 3) := by decide +kernel
theorem own_d7_8 : decode jdk_35_method_24_code 8 = .ok (.lcmp, 1) := by decide +kernel
theorem own_d7_9 : decode jdk_35_method_24_code 9 = .ok (.ifCond .lt 22, 3) := by decide +kernel
theorem own_d7_12 : decode jdk_35_method_24_code 12 = .ok (.lload_n 0, 1) := by decide +kernel
theorem own_d7_13 : decode jdk_35_method_24_code 13 = .ok (.ldc2_w 232, 3) := by decide +kernel
theorem own_d7_16 : decode jdk_35_method_24_code 16 = .ok (.lcmp, 1) := by decide +kernel
theorem own_d7_17 : decode jdk_35_method_24_code 17 = .ok (.ifCond .gt 14, 3) := by decide +kernel
theorem own_d7_20 : decode jdk_35_method_24_code 20 = .ok (.getstatic 234, 3) := by decide +kernel
theorem own_d7_23 : decode jdk_35_method_24_code 23 = .ok (.lload_n 0, 1) := by decide +kernel
theorem own_d7_24 : decode jdk_35_method_24_code 24 = .ok (.l2i, 1) := by decide +kernel
theorem own_d7_25 : decode jdk_35_method_24_code 25 = .ok (.sipush 128, 3) := by decide +kernel
theorem own_d7_28 : decode jdk_35_method_24_code 28 = .ok (.iadd, 1) := by decide +kernel
theorem own_d7_29 : decode jdk_35_method_24_code 29 = .ok (.aaload, 1) := by decide +kernel
theorem own_d7_30 : decode jdk_35_method_24_code 30 = .ok (.areturn, 1) := by decide +kernel
theorem own_d7_31 : decode jdk_35_method_24_code 31 = .ok (.new 1, 3) := by decide +kernel
theorem own_d7_34 : decode jdk_35_method_24_code 34 = .ok (.dup, 1) := by decide +kernel
theorem own_d7_35 : decode jdk_35_method_24_code 35 = .ok (.lload_n 0, 1) := by decide +kernel
theorem own_d7_36 : decode jdk_35_method_24_code 36 = .ok (.invokespecial 240, 3) := by decide +kernel
theorem own_d7_39 : decode jdk_35_method_24_code 39 = .ok (.areturn, 1) := by decide +kernel
def own_Q7 (Z : State) (xx : Int64) (xc : Addr) (xcl : Cell) (h0 : Heap) (n0 : Nat) (v : Option Value) (h : Heap) (L : List Loc) : Prop := ∃ (xo : Addr), v = some (.ref xo) ∧ Fr n0 L ∧ Keep h0 h [] ∧ Exa Z h xo "java/lang/Long"
theorem own_ef7 (m : MethodId) (xx : Int64) : entryFrame m #[(.long xx)] 3 = mkF m 0 #[.val (.long xx), .second, .unset] [] := by first | (simp [entryFrame, mkF, argsToLocals, Value.category]; done) | rfl
set_option maxRecDepth 65536 in
set_option maxHeartbeats 40000000 in
theorem own_rm7 (l : Launch) (Z : State) (a0 : Array Value) (hw : ∀ d ∈ tables_1, d.before a0 Z = true) (ws : List Jvm.Cond) (xx : Int64) (xc : Addr) (xcl : Cell) (h0 : Heap) (n0 : Nat) (Z0 : n0 ≤ h0.size) (S_cache : Sta Z h0 "java/lang/Long$LongCache" "cache" "[Ljava/lang/Long;" (.ref xc)) (R_xc : Arr Z h0 xc xcl (.object "java/lang/Long")) (hsz : xcl.slots.size = (256 : Int32).toNatClampNeg) (hca : ∀ j : Int32, ¬ (j < 0 ∨ xcl.slots.size ≤ j.toNatClampNeg) → ∃ o : Addr, xcl.slots[j.toNatClampNeg]? = some (.ref o) ∧ Exa Z h0 o "java/lang/Long") :
    MetFree l (⟨"java/lang/Long", "valueOf", "(J)Ljava/lang/Long;"⟩ : MethodName) (head1 (Jvm.Cond.code (⟨"java/lang/Long", "valueOf", "(J)Ljava/lang/Long;"⟩ : MethodName) jdk_35_method_24_code 3 (some (.object "java/lang/Long")) :: ws) ({ frames := 3, cells := 1, slots := 1, locals := 39 } : Room)) (fun a U => a = #[(.long xx)] ∧ Z.Warmed39 U.vm ∧ U.heap = h0) (fun _ _ _ _ _ => True) (fun _ U o U' => ∃ v L, o = .returned v ∧ own_Q7 Z xx xc xcl h0 n0 v U'.heap L ∧ FrameEnd U o U' L ({ frames := 3, cells := 1, slots := 1, locals := 39 } : Room).cells ({ frames := 3, cells := 1, slots := 1, locals := 39 } : Room).slots) := by
  refine MetFree.of_bodySF (plainFor_of_name own_pn1) hisR ?_
  intro p e s m args below meth c s₁ Bd hml0 hP hK
  obtain ⟨rfl, hZ, hh⟩ := hP
  have hx := Bd.exec
  have hby := Bd.bytes
  have hml : c.maxLocals = 3 := hml0
  have hown : s.vm.findClass "java/lang/Long" = some m.cls := findClass_of_methodNamed Bd.named
  have hnm := (name_of_methodNamed Bd.named Bd.method).1
  have X0 : Stand p l e ({ frames := 3, cells := 1, slots := 1, locals := 39 } : Room) s m #[(.long xx)] below meth c s₁ [] 0 0 := Stand.of_body Bd
  have e0 : s₁.heap = h0 := by rw [← hh, Bd.state]; rfl
  have N0 := Fr.nil n0
  have pre0 : ∀ t, Steps p.tables e below (s₁.setTop (mkF m 0 #[.val (.long xx), .second, .unset] [])) t → Steps p.tables e below (s₁.setTop (entryFrame m #[(.long xx)] 3)) t := fun t k => castTop (own_ef7 m xx) k
  have K0 : Keep h0 h0 [] := Keep.refl _ _
  have pre1 : ∀ t, Steps p.tables e below (s₁.setTop (mkF m 9 #[.val (.long xx), .second, .val (.int (128 : Int32))] [(.int (lcmpW xx (-128 : Int64)))])) t → Steps p.tables e below (s₁.setTop (entryFrame m #[(.long xx)] 3)) t := by
    intro t k
    refine pre0 _ ?_
    show Steps p.tables e below (s₁.setTop (mkF m 0 #[.val (.long xx), .second, .unset] [])) _
    refine XS.sipush X0.here hx rfl (hb hby own_d7_0) ?_
    show Steps p.tables e below (s₁.setTop (mkF m 3 #[.val (.long xx), .second, .unset] [(.int (128 : Int32))])) _
    refine XS.istoreN X0.here hx rfl (hb hby own_d7_3) rfl (l' := #[.val (.long xx), .second, .val (.int (128 : Int32))]) rfl ?_
    show Steps p.tables e below (s₁.setTop (mkF m 4 #[.val (.long xx), .second, .val (.int (128 : Int32))] [])) _
    refine XS.lloadN X0.here hx rfl (hb hby own_d7_4) rfl ?_
    show Steps p.tables e below (s₁.setTop (mkF m 5 #[.val (.long xx), .second, .val (.int (128 : Int32))] [(.long xx)])) _
    refine X0.ldc2Long hx hown (mvT hZ (hw _ (List.mem_of_getElem? (i := 38) rfl))) (g := (mkF m 5 #[.val (.long xx), .second, .val (.int (128 : Int32))] [(.long xx)])) rfl (hb hby own_d7_5) _ ?_
    show Steps p.tables e below (s₁.setTop (mkF m 8 #[.val (.long xx), .second, .val (.int (128 : Int32))] [(.long (-128 : Int64)), (.long xx)])) _
    refine XS.lcmp X0.here hx rfl (hb hby own_d7_8) rfl ?_
    exact k
  by_cases hc9 : xx < (-128 : Int64)
  · obtain ⟨T2, h2, X2, e2, E2, A2, D2, -, st2⟩ := newO X0 hx hZ hown (hw _ (List.mem_of_getElem? (i := 45) rfl)) (hw _ (List.mem_of_getElem? (i := 46) rfl)) (hw _ (List.mem_of_getElem? (i := 36) rfl)) e0 (g := (mkF m 31 #[.val (.long xx), .second, .val (.int (128 : Int32))] [])) rfl (hb hby own_d7_31) (by decide) (by decide)
    obtain ⟨b2, g2⟩ : ∃ z, z = h0.size := ⟨_, rfl⟩
    rw [← g2] at A2 D2 st2
    have ne_xc_b2 : xc ≠ b2 := Nat.ne_of_lt (Nat.lt_of_lt_of_le R_xc.lt (Nat.le_of_eq g2.symm))
    have g_b2 : n0 ≤ b2 := Nat.le_trans Z0 (Nat.le_of_eq g2.symm)
    have sz_b2 : h0.size ≤ b2 := Nat.le_trans K0.1 (Nat.le_of_eq g2.symm)
    have K2 : Keep h0 h2 [] := K0.ext E2
    have F3 : Sta Z h2 "java/lang/Long$LongCache" "cache" "[Ljava/lang/Long;" (.ref xc) := S_cache.ext E2
    have F4 : Arr Z h2 xc xcl (.object "java/lang/Long") := R_xc.ext E2
    have Z2 : n0 ≤ h2.size := Nat.le_trans Z0 E2.1
    have F5 : Fld Z h2 b2 "java/lang/Long" "value" "J" (.long (0 : Int64)) := D2 (Or.inr (hw _ (List.mem_of_getElem? (i := 59) rfl))) (ty := .long) (by decide)
    obtain ⟨_, _, ⟨T6, L6, k6, n6⟩, -, X6, ⟨Lc6, hQ6, l6, y6, z6⟩, st6⟩ := X2.specialBack hx (y := (⟨"java/lang/Long", "<init>", "(J)V"⟩ : MethodName)) rfl hown (mvT hZ (hw _ (List.mem_of_getElem? (i := 47) rfl))) (mvT hZ (hw _ (List.mem_of_getElem? (i := 48) rfl))) (mvT hZ (hw _ (List.mem_of_getElem? (i := 50) rfl))) (by decide) (backOf (W := 1) (own_rm8 l Z a0 hw [] b2 xx h2 n0 Z2 A2 F5 g_b2) hZ (hw _ (List.mem_of_getElem? (i := 50) rfl)) (hw _ (List.mem_of_getElem? (i := 36) rfl)) (by decide) (by decide)) (g := (mkF m 36 #[.val (.long xx), .second, .val (.int (128 : Int32))] [(.long xx), (.ref b2), (.ref b2)])) rfl (by rw [hml]; rfl) (Steps.refl _) (a := b2) (argsL := [(.long xx)]) (rest := [(.ref b2)]) (lenOf own_pd1 rfl) rfl (by show 2 * 0 + _ ≤ _; exact Nat.le_of_eq rfl) (hb hby own_d7_36) (fun _ _ => ⟨rfl, e2, (by decide : 1 + 0 ≤ _), (by decide : 1 + 0 ≤ _)⟩)
    dsimp only [Pt.U, Pt.locs, Pt.cells, Pt.slots] at X6 l6 y6 z6 st6 hQ6
    subst l6 y6 z6
    obtain ⟨rfl, N6q, K6q, F7, F8⟩ := hQ6
    have K6 := K6q
    have KK6 : Keep h0 T6.heap [] := K2.trans K6 (allS (Or.inr sz_b2) all0)
    have F9 : Sta Z T6.heap "java/lang/Long$LongCache" "cache" "[Ljava/lang/Long;" (.ref xc) := S_cache.ext (own_ext KK6)
    have F10 : Arr Z T6.heap xc xcl (.object "java/lang/Long") := R_xc.ext (own_ext KK6)
    have F11 : Exa Z T6.heap b2 "java/lang/Long" := A2.keep K6
    have Z6 : n0 ≤ T6.heap.size := Nat.le_trans Z2 K6.1
    have N6 := Fr.app N0 N6q
    obtain ⟨fs, hr, hrun, hended, hW, hsame⟩ := X6.leave (v := some (.ref b2)) (fun h => by rw [Bd.returns] at h; cases h)
    refine ⟨_, _, pre1 _ ?_, hrun, hended, _, _, rfl, ?_, ⟨_, rfl⟩, hW, hsame.mono (by decide) (by decide)⟩
    · show Steps p.tables e below (s₁.setTop (mkF m 9 #[.val (.long xx), .second, .val (.int (128 : Int32))] [(.int (lcmpW xx (-128 : Int64)))])) _
      refine XS.ifYes X0.here hx rfl (pc0 := 9) (pc' := 31) rfl (hb hby own_d7_9) rfl ((if0 _ _).trans (tlt ((lw_lt xx (-128 : Int64)).mpr hc9)).1) (by decide) (by decide) ?_
      show Steps p.tables e below (s₁.setTop (mkF m 31 #[.val (.long xx), .second, .val (.int (128 : Int32))] [])) _
      refine st2 _ ?_
      show Steps p.tables e below (T2.setTop (mkF m 34 #[.val (.long xx), .second, .val (.int (128 : Int32))] [(.ref b2)])) _
      refine XS.dup X2.here hx rfl (hb hby own_d7_34) rfl rfl ?_
      show Steps p.tables e below (T2.setTop (mkF m 35 #[.val (.long xx), .second, .val (.int (128 : Int32))] [(.ref b2), (.ref b2)])) _
      refine XS.lloadN X2.here hx rfl (hb hby own_d7_35) rfl ?_
      show Steps p.tables e below (T2.setTop (mkF m 36 #[.val (.long xx), .second, .val (.int (128 : Int32))] [(.long xx), (.ref b2), (.ref b2)])) _
      refine st6.trans ?_
      show Steps p.tables e below (T6.setTop (mkF m 39 #[.val (.long xx), .second, .val (.int (128 : Int32))] [(.ref b2)])) _
      exact retA X6 hx Bd.returns rfl rfl rfl (hb hby own_d7_39) hr
    · show own_Q7 Z xx xc xcl h0 n0 _ T6.heap _
      exact ⟨b2, rfl, N6, KK6, F7⟩
  · have pre12 : ∀ t, Steps p.tables e below (s₁.setTop (mkF m 17 #[.val (.long xx), .second, .val (.int (128 : Int32))] [(.int (lcmpW xx (127 : Int64)))])) t → Steps p.tables e below (s₁.setTop (entryFrame m #[(.long xx)] 3)) t := by
      intro t k
      refine pre1 _ ?_
      show Steps p.tables e below (s₁.setTop (mkF m 9 #[.val (.long xx), .second, .val (.int (128 : Int32))] [(.int (lcmpW xx (-128 : Int64)))])) _
      refine XS.ifNo X0.here hx rfl (hb hby own_d7_9) rfl ((if0 _ _).trans (flt (fun z => hc9 ((lw_lt xx (-128 : Int64)).mp z))).1) ?_
      show Steps p.tables e below (s₁.setTop (mkF m 12 #[.val (.long xx), .second, .val (.int (128 : Int32))] [])) _
      refine XS.lloadN X0.here hx rfl (hb hby own_d7_12) rfl ?_
      show Steps p.tables e below (s₁.setTop (mkF m 13 #[.val (.long xx), .second, .val (.int (128 : Int32))] [(.long xx)])) _
      refine X0.ldc2Long hx hown (mvT hZ (hw _ (List.mem_of_getElem? (i := 39) rfl))) (g := (mkF m 13 #[.val (.long xx), .second, .val (.int (128 : Int32))] [(.long xx)])) rfl (hb hby own_d7_13) _ ?_
      show Steps p.tables e below (s₁.setTop (mkF m 16 #[.val (.long xx), .second, .val (.int (128 : Int32))] [(.long (127 : Int64)), (.long xx)])) _
      refine XS.lcmp X0.here hx rfl (hb hby own_d7_16) rfl ?_
      exact k
    by_cases hc17 : (127 : Int64) < xx
    · obtain ⟨T13, h13, X13, e13, E13, A13, D13, -, st13⟩ := newO X0 hx hZ hown (hw _ (List.mem_of_getElem? (i := 45) rfl)) (hw _ (List.mem_of_getElem? (i := 46) rfl)) (hw _ (List.mem_of_getElem? (i := 36) rfl)) e0 (g := (mkF m 31 #[.val (.long xx), .second, .val (.int (128 : Int32))] [])) rfl (hb hby own_d7_31) (by decide) (by decide)
      obtain ⟨b13, g13⟩ : ∃ z, z = h0.size := ⟨_, rfl⟩
      rw [← g13] at A13 D13 st13
      have ne_xc_b13 : xc ≠ b13 := Nat.ne_of_lt (Nat.lt_of_lt_of_le R_xc.lt (Nat.le_of_eq g13.symm))
      have g_b13 : n0 ≤ b13 := Nat.le_trans Z0 (Nat.le_of_eq g13.symm)
      have sz_b13 : h0.size ≤ b13 := Nat.le_trans K0.1 (Nat.le_of_eq g13.symm)
      have K13 : Keep h0 h13 [] := K0.ext E13
      have F14 : Sta Z h13 "java/lang/Long$LongCache" "cache" "[Ljava/lang/Long;" (.ref xc) := S_cache.ext E13
      have F15 : Arr Z h13 xc xcl (.object "java/lang/Long") := R_xc.ext E13
      have Z13 : n0 ≤ h13.size := Nat.le_trans Z0 E13.1
      have F16 : Fld Z h13 b13 "java/lang/Long" "value" "J" (.long (0 : Int64)) := D13 (Or.inr (hw _ (List.mem_of_getElem? (i := 59) rfl))) (ty := .long) (by decide)
      obtain ⟨_, _, ⟨T17, L17, k17, n17⟩, -, X17, ⟨Lc17, hQ17, l17, y17, z17⟩, st17⟩ := X13.specialBack hx (y := (⟨"java/lang/Long", "<init>", "(J)V"⟩ : MethodName)) rfl hown (mvT hZ (hw _ (List.mem_of_getElem? (i := 47) rfl))) (mvT hZ (hw _ (List.mem_of_getElem? (i := 48) rfl))) (mvT hZ (hw _ (List.mem_of_getElem? (i := 50) rfl))) (by decide) (backOf (W := 1) (own_rm8 l Z a0 hw [] b13 xx h13 n0 Z13 A13 F16 g_b13) hZ (hw _ (List.mem_of_getElem? (i := 50) rfl)) (hw _ (List.mem_of_getElem? (i := 36) rfl)) (by decide) (by decide)) (g := (mkF m 36 #[.val (.long xx), .second, .val (.int (128 : Int32))] [(.long xx), (.ref b13), (.ref b13)])) rfl (by rw [hml]; rfl) (Steps.refl _) (a := b13) (argsL := [(.long xx)]) (rest := [(.ref b13)]) (lenOf own_pd1 rfl) rfl (by show 2 * 0 + _ ≤ _; exact Nat.le_of_eq rfl) (hb hby own_d7_36) (fun _ _ => ⟨rfl, e13, (by decide : 1 + 0 ≤ _), (by decide : 1 + 0 ≤ _)⟩)
      dsimp only [Pt.U, Pt.locs, Pt.cells, Pt.slots] at X17 l17 y17 z17 st17 hQ17
      subst l17 y17 z17
      obtain ⟨rfl, N17q, K17q, F18, F19⟩ := hQ17
      have K17 := K17q
      have KK17 : Keep h0 T17.heap [] := K13.trans K17 (allS (Or.inr sz_b13) all0)
      have F20 : Sta Z T17.heap "java/lang/Long$LongCache" "cache" "[Ljava/lang/Long;" (.ref xc) := S_cache.ext (own_ext KK17)
      have F21 : Arr Z T17.heap xc xcl (.object "java/lang/Long") := R_xc.ext (own_ext KK17)
      have F22 : Exa Z T17.heap b13 "java/lang/Long" := A13.keep K17
      have Z17 : n0 ≤ T17.heap.size := Nat.le_trans Z13 K17.1
      have N17 := Fr.app N0 N17q
      obtain ⟨fs, hr, hrun, hended, hW, hsame⟩ := X17.leave (v := some (.ref b13)) (fun h => by rw [Bd.returns] at h; cases h)
      refine ⟨_, _, pre12 _ ?_, hrun, hended, _, _, rfl, ?_, ⟨_, rfl⟩, hW, hsame.mono (by decide) (by decide)⟩
      · show Steps p.tables e below (s₁.setTop (mkF m 17 #[.val (.long xx), .second, .val (.int (128 : Int32))] [(.int (lcmpW xx (127 : Int64)))])) _
        refine XS.ifYes X0.here hx rfl (pc0 := 17) (pc' := 31) rfl (hb hby own_d7_17) rfl ((if0 _ _).trans (tlt ((lw_gt xx (127 : Int64)).mpr hc17)).2.2.1) (by decide) (by decide) ?_
        show Steps p.tables e below (s₁.setTop (mkF m 31 #[.val (.long xx), .second, .val (.int (128 : Int32))] [])) _
        refine st13 _ ?_
        show Steps p.tables e below (T13.setTop (mkF m 34 #[.val (.long xx), .second, .val (.int (128 : Int32))] [(.ref b13)])) _
        refine XS.dup X13.here hx rfl (hb hby own_d7_34) rfl rfl ?_
        show Steps p.tables e below (T13.setTop (mkF m 35 #[.val (.long xx), .second, .val (.int (128 : Int32))] [(.ref b13), (.ref b13)])) _
        refine XS.lloadN X13.here hx rfl (hb hby own_d7_35) rfl ?_
        show Steps p.tables e below (T13.setTop (mkF m 36 #[.val (.long xx), .second, .val (.int (128 : Int32))] [(.long xx), (.ref b13), (.ref b13)])) _
        refine st17.trans ?_
        show Steps p.tables e below (T17.setTop (mkF m 39 #[.val (.long xx), .second, .val (.int (128 : Int32))] [(.ref b13)])) _
        exact retA X17 hx Bd.returns rfl rfl rfl (hb hby own_d7_39) hr
      · show own_Q7 Z xx xc xcl h0 n0 _ T17.heap _
        exact ⟨b13, rfl, N17, KK17, F18⟩
    · obtain ⟨T23, X23, e23, st23⟩ := getS2 X0 hx hZ hown (host := "") (Or.inl (hw _ (List.mem_of_getElem? (i := 40) rfl))) Via.refl e0 S_cache (g := (mkF m 20 #[.val (.long xx), .second, .val (.int (128 : Int32))] [])) rfl (hb hby own_d7_20)
      have hin : ¬ (((xx.toInt32) + (128 : Int32)) < 0 ∨ xcl.slots.size ≤ (((xx.toInt32) + (128 : Int32))).toNatClampNeg) := inb_of hsz (own_idx hc9 hc17)
      obtain ⟨xe, hel, Exe⟩ := hca _ hin
      obtain ⟨fs, hr, hrun, hended, hW, hsame⟩ := X23.leave (v := some (.ref xe)) (fun h => by rw [Bd.returns] at h; cases h)
      refine ⟨_, _, pre12 _ ?_, hrun, hended, _, _, rfl, ?_, ⟨_, rfl⟩, hW, hsame.mono (by decide) (by decide)⟩
      · show Steps p.tables e below (s₁.setTop (mkF m 17 #[.val (.long xx), .second, .val (.int (128 : Int32))] [(.int (lcmpW xx (127 : Int64)))])) _
        refine XS.ifNo X0.here hx rfl (hb hby own_d7_17) rfl ((if0 _ _).trans (flt (fun z => hc17 ((lw_gt xx (127 : Int64)).mp z))).2.2.1) ?_
        show Steps p.tables e below (s₁.setTop (mkF m 20 #[.val (.long xx), .second, .val (.int (128 : Int32))] [])) _
        refine st23 _ ?_
        show Steps p.tables e below (T23.setTop (mkF m 23 #[.val (.long xx), .second, .val (.int (128 : Int32))] [(.ref xc)])) _
        refine XS.lloadN X23.here hx rfl (hb hby own_d7_23) rfl ?_
        show Steps p.tables e below (T23.setTop (mkF m 24 #[.val (.long xx), .second, .val (.int (128 : Int32))] [(.long xx), (.ref xc)])) _
        refine XS.l2i X23.here hx rfl (hb hby own_d7_24) rfl ?_
        show Steps p.tables e below (T23.setTop (mkF m 25 #[.val (.long xx), .second, .val (.int (128 : Int32))] [(.int (xx.toInt32)), (.ref xc)])) _
        refine XS.sipush X23.here hx rfl (hb hby own_d7_25) ?_
        show Steps p.tables e below (T23.setTop (mkF m 28 #[.val (.long xx), .second, .val (.int (128 : Int32))] [(.int (128 : Int32)), (.int (xx.toInt32)), (.ref xc)])) _
        refine XS.iadd X23.here hx rfl (hb hby own_d7_28) rfl ?_
        show Steps p.tables e below (T23.setTop (mkF m 29 #[.val (.long xx), .second, .val (.int (128 : Int32))] [(.int ((xx.toInt32) + (128 : Int32))), (.ref xc)])) _
        refine X23.aaload hx (j := ((xx.toInt32) + (128 : Int32))) (v := (.ref xe)) (by rw [e23]; exact R_xc.1) (State.isArrayOf_alike hZ.alike R_xc.2.1) rfl R_xc.2.2 hin hel (g := (mkF m 29 #[.val (.long xx), .second, .val (.int (128 : Int32))] [(.int ((xx.toInt32) + (128 : Int32))), (.ref xc)])) rfl rfl (hb hby own_d7_29) _ ?_
        show Steps p.tables e below (T23.setTop (mkF m 30 #[.val (.long xx), .second, .val (.int (128 : Int32))] [(.ref xe)])) _
        exact retA X23 hx Bd.returns rfl rfl rfl (hb hby own_d7_30) hr
      · show own_Q7 Z xx xc xcl h0 n0 _ T23.heap _
        rw [e23]
        exact ⟨xe, rfl, N0, K0, Exe⟩
theorem own_pn2 : plainName "com/example/clotho/clotho/model/Segment" = true := by first | (simp [plainName, overriddenIn]; done) | decide +kernel
theorem own_d2_0 : decode prog_43_method_1_code 0 = .ok (.aload_n 0, 1) := by decide +kernel
theorem own_d2_1 : decode prog_43_method_1_code 1 = .ok (.invokespecial 1, 3) := by decide +kernel
theorem own_d2_4 : decode prog_43_method_1_code 4 = .ok (.lload_n 3, 1) := by decide +kernel
theorem own_d2_5 : decode prog_43_method_1_code 5 = .ok (.lload_n 1, 1) := by decide +kernel
theorem own_d2_6 : decode prog_43_method_1_code 6 = .ok (.lcmp, 1) := by decide +kernel
theorem own_d2_7 : decode prog_43_method_1_code 7 = .ok (.ifCond .gt 18, 3) := by decide +kernel
theorem own_d2_25 : decode prog_43_method_1_code 25 = .ok (.aload_n 0, 1) := by decide +kernel
theorem own_d2_26 : decode prog_43_method_1_code 26 = .ok (.lload_n 1, 1) := by decide +kernel
theorem own_d2_27 : decode prog_43_method_1_code 27 = .ok (.putfield 16, 3) := by decide +kernel
theorem own_d2_30 : decode prog_43_method_1_code 30 = .ok (.aload_n 0, 1) := by decide +kernel
theorem own_d2_31 : decode prog_43_method_1_code 31 = .ok (.lload_n 3, 1) := by decide +kernel
theorem own_d2_32 : decode prog_43_method_1_code 32 = .ok (.putfield 22, 3) := by decide +kernel
theorem own_d2_35 : decode prog_43_method_1_code 35 = .ok (.return_, 1) := by decide +kernel
def own_Q2 (Z : State) (xthis : Addr) (x1 : Int64) (x2 : Int64) (h0 : Heap) (n0 : Nat) (v : Option Value) (h : Heap) (L : List Loc) : Prop := v = none ∧ Fr n0 L ∧ Keep h0 h [xthis] ∧ Exa Z h xthis "com/example/clotho/clotho/model/Segment" ∧ Fld Z h xthis "com/example/clotho/clotho/model/Segment" "start" "J" (.long x1) ∧ Fld Z h xthis "com/example/clotho/clotho/model/Segment" "end" "J" (.long x2)
theorem own_ef2 (m : MethodId) (xthis : Addr) (x1 : Int64) (x2 : Int64) : entryFrame m #[(.ref xthis), (.long x1), (.long x2)] 5 = mkF m 0 #[.val (.ref xthis), .val (.long x1), .second, .val (.long x2), .second] [] := by first | (simp [entryFrame, mkF, argsToLocals, Value.category]; done) | rfl
set_option maxRecDepth 65536 in
set_option maxHeartbeats 40000000 in
theorem own_rm2 (l : Launch) (Z : State) (a0 : Array Value) (hw : ∀ d ∈ tables_1, d.before a0 Z = true) (ws : List Jvm.Cond) (xthis : Addr) (x1 : Int64) (x2 : Int64) (h0 : Heap) (n0 : Nat) (Z0 : n0 ≤ h0.size) (E_xthis : Exa Z h0 xthis "com/example/clotho/clotho/model/Segment") (F_start_xthis : Fld Z h0 xthis "com/example/clotho/clotho/model/Segment" "start" "J" (.long (0 : Int64))) (F_end_xthis : Fld Z h0 xthis "com/example/clotho/clotho/model/Segment" "end" "J" (.long (0 : Int64))) (g_xthis : n0 ≤ xthis) (hok : x1 < x2) :
    MetFree l (⟨"com/example/clotho/clotho/model/Segment", "<init>", "(JJ)V"⟩ : MethodName) (head1 (Jvm.Cond.code (⟨"com/example/clotho/clotho/model/Segment", "<init>", "(JJ)V"⟩ : MethodName) prog_43_method_1_code 5 none :: ws) ({ frames := 1, cells := 0, slots := 0, locals := 12 } : Room)) (fun a U => a = #[(.ref xthis), (.long x1), (.long x2)] ∧ Z.Warmed39 U.vm ∧ U.heap = h0) (fun _ _ _ _ _ => True) (fun _ U o U' => ∃ v L, o = .returned v ∧ own_Q2 Z xthis x1 x2 h0 n0 v U'.heap L ∧ FrameEnd U o U' L ({ frames := 1, cells := 0, slots := 0, locals := 12 } : Room).cells ({ frames := 1, cells := 0, slots := 0, locals := 12 } : Room).slots) := by
  refine MetFree.of_bodySF (plainFor_of_name own_pn2) hisR ?_
  intro p e s m args below meth c s₁ Bd hml0 hP hK
  obtain ⟨rfl, hZ, hh⟩ := hP
  have hx := Bd.exec
  have hby := Bd.bytes
  have hml : c.maxLocals = 5 := hml0
  have hown : s.vm.findClass "com/example/clotho/clotho/model/Segment" = some m.cls := findClass_of_methodNamed Bd.named
  have hnm := (name_of_methodNamed Bd.named Bd.method).1
  have X0 : Stand p l e ({ frames := 1, cells := 0, slots := 0, locals := 12 } : Room) s m #[(.ref xthis), (.long x1), (.long x2)] below meth c s₁ [] 0 0 := Stand.of_body Bd
  have e0 : s₁.heap = h0 := by rw [← hh, Bd.state]; rfl
  have N0 := Fr.nil n0
  have pre0 : ∀ t, Steps p.tables e below (s₁.setTop (mkF m 0 #[.val (.ref xthis), .val (.long x1), .second, .val (.long x2), .second] [])) t → Steps p.tables e below (s₁.setTop (entryFrame m #[(.ref xthis), (.long x1), (.long x2)] 5)) t := fun t k => castTop (own_ef2 m xthis x1 x2) k
  have K0 : Keep h0 h0 [xthis] := Keep.refl _ _
  obtain ⟨T1, X1, e1, st1⟩ := initO X0 hx hZ hown (hw _ (List.mem_of_getElem? (i := 10) rfl)) (hw _ (List.mem_of_getElem? (i := 11) rfl)) (hw _ (List.mem_of_getElem? (i := 12) rfl)) e0 (g := (mkF m 1 #[.val (.ref xthis), .val (.long x1), .second, .val (.long x2), .second] [(.ref xthis)])) rfl (by rw [hml]; rfl) rfl (hb hby own_d2_1) (by decide) (W := 0) (by show 2 * 0 + _ ≤ _; exact Nat.le_of_eq rfl) (by decide)
  obtain ⟨T2, h2, X2, e2, W2, st2⟩ := putF X1 hx hZ hown (host := "") (Or.inl (hw _ (List.mem_of_getElem? (i := 13) rfl))) Via.refl e1 F_start_xthis E_xthis (Or.inr ⟨(hw _ (List.mem_of_getElem? (i := 14) rfl)), rfl, hnm⟩) (hw _ (List.mem_of_getElem? (i := 5) rfl)) (ty := .long) (by decide) rfl rfl (g := (mkF m 27 #[.val (.ref xthis), .val (.long x1), .second, .val (.long x2), .second] [(.long x1), (.ref xthis)])) rfl rfl (hb hby own_d2_27)
  have F3 : Fld Z h2 xthis "com/example/clotho/clotho/model/Segment" "start" "J" (.long x1) := F_start_xthis.same W2
  have F4 : Exa Z h2 xthis "com/example/clotho/clotho/model/Segment" := E_xthis.wr W2
  have F5 : Fld Z h2 xthis "com/example/clotho/clotho/model/Segment" "end" "J" (.long (0 : Int64)) := F_end_xthis.other W2 (Or.inr (slot_ne (Or.inr (hw _ (List.mem_of_getElem? (i := 16) rfl))) (Or.inr (hw _ (List.mem_of_getElem? (i := 14) rfl))) (by decide) (t := .long) (t' := .long) (by decide) (by decide)))
  have N2 := Fr.snoc X2 N0 g_xthis
  have Z2 : n0 ≤ h2.size := Nat.le_trans Z0 (Keep.of_wr W2).1
  have K2 : Keep h0 h2 [xthis] := K0.wr W2 (Or.inl (List.mem_of_getElem? (i := 0) rfl))
  obtain ⟨T6, h6, X6, e6, W6, st6⟩ := putF X2 hx hZ hown (host := "") (Or.inl (hw _ (List.mem_of_getElem? (i := 15) rfl))) Via.refl e2 F5 F4 (Or.inr ⟨(hw _ (List.mem_of_getElem? (i := 16) rfl)), rfl, hnm⟩) (hw _ (List.mem_of_getElem? (i := 5) rfl)) (ty := .long) (by decide) rfl rfl (g := (mkF m 32 #[.val (.ref xthis), .val (.long x1), .second, .val (.long x2), .second] [(.long x2), (.ref xthis)])) rfl rfl (hb hby own_d2_32)
  have F7 : Fld Z h6 xthis "com/example/clotho/clotho/model/Segment" "end" "J" (.long x2) := F5.same W6
  have F8 : Exa Z h6 xthis "com/example/clotho/clotho/model/Segment" := F4.wr W6
  have F9 : Fld Z h6 xthis "com/example/clotho/clotho/model/Segment" "start" "J" (.long x1) := F3.other W6 (Or.inr (slot_ne (Or.inr (hw _ (List.mem_of_getElem? (i := 14) rfl))) (Or.inr (hw _ (List.mem_of_getElem? (i := 16) rfl))) (by decide) (t := .long) (t' := .long) (by decide) (by decide)))
  have N6 := Fr.snoc X6 N2 g_xthis
  have Z6 : n0 ≤ h6.size := Nat.le_trans Z2 (Keep.of_wr W6).1
  have K6 : Keep h0 h6 [xthis] := K2.wr W6 (Or.inl (List.mem_of_getElem? (i := 0) rfl))
  obtain ⟨fs, hr, hrun, hended, hW, hsame⟩ := X6.leave (v := none) (fun _ => rfl)
  refine ⟨_, _, pre0 _ ?_, hrun, hended, _, _, rfl, ?_, ⟨_, rfl⟩, hW, hsame.mono (by decide) (by decide)⟩
  · show Steps p.tables e below (s₁.setTop (mkF m 0 #[.val (.ref xthis), .val (.long x1), .second, .val (.long x2), .second] [])) _
    refine XS.aloadN X0.here hx rfl (hb hby own_d2_0) rfl rfl ?_
    show Steps p.tables e below (s₁.setTop (mkF m 1 #[.val (.ref xthis), .val (.long x1), .second, .val (.long x2), .second] [(.ref xthis)])) _
    refine st1 _ ?_
    show Steps p.tables e below (T1.setTop (mkF m 4 #[.val (.ref xthis), .val (.long x1), .second, .val (.long x2), .second] [])) _
    refine XS.lloadN X1.here hx rfl (hb hby own_d2_4) rfl ?_
    show Steps p.tables e below (T1.setTop (mkF m 5 #[.val (.ref xthis), .val (.long x1), .second, .val (.long x2), .second] [(.long x2)])) _
    refine XS.lloadN X1.here hx rfl (hb hby own_d2_5) rfl ?_
    show Steps p.tables e below (T1.setTop (mkF m 6 #[.val (.ref xthis), .val (.long x1), .second, .val (.long x2), .second] [(.long x1), (.long x2)])) _
    refine XS.lcmp X1.here hx rfl (hb hby own_d2_6) rfl ?_
    show Steps p.tables e below (T1.setTop (mkF m 7 #[.val (.ref xthis), .val (.long x1), .second, .val (.long x2), .second] [(.int (lcmpW x2 x1))])) _
    refine XS.ifYes X1.here hx rfl (pc0 := 7) (pc' := 25) rfl (hb hby own_d2_7) rfl ((if0 _ _).trans (tlt ((lw_gt x2 x1).mpr hok)).2.2.1) (by decide) (by decide) ?_
    show Steps p.tables e below (T1.setTop (mkF m 25 #[.val (.ref xthis), .val (.long x1), .second, .val (.long x2), .second] [])) _
    refine XS.aloadN X1.here hx rfl (hb hby own_d2_25) rfl rfl ?_
    show Steps p.tables e below (T1.setTop (mkF m 26 #[.val (.ref xthis), .val (.long x1), .second, .val (.long x2), .second] [(.ref xthis)])) _
    refine XS.lloadN X1.here hx rfl (hb hby own_d2_26) rfl ?_
    show Steps p.tables e below (T1.setTop (mkF m 27 #[.val (.ref xthis), .val (.long x1), .second, .val (.long x2), .second] [(.long x1), (.ref xthis)])) _
    refine st2 _ ?_
    show Steps p.tables e below (T2.setTop (mkF m 30 #[.val (.ref xthis), .val (.long x1), .second, .val (.long x2), .second] [])) _
    refine XS.aloadN X2.here hx rfl (hb hby own_d2_30) rfl rfl ?_
    show Steps p.tables e below (T2.setTop (mkF m 31 #[.val (.ref xthis), .val (.long x1), .second, .val (.long x2), .second] [(.ref xthis)])) _
    refine XS.lloadN X2.here hx rfl (hb hby own_d2_31) rfl ?_
    show Steps p.tables e below (T2.setTop (mkF m 32 #[.val (.ref xthis), .val (.long x1), .second, .val (.long x2), .second] [(.long x2), (.ref xthis)])) _
    refine st6 _ ?_
    show Steps p.tables e below (T6.setTop (mkF m 35 #[.val (.ref xthis), .val (.long x1), .second, .val (.long x2), .second] [])) _
    exact X6.returnOut hx Bd.returns (hb hby own_d2_35) hr
  · show own_Q2 Z xthis x1 x2 h0 n0 _ T6.heap _
    rw [e6]
    exact ⟨rfl, N6, K6, F8, F9, F7⟩
theorem own_pn3 : plainName "com/example/clotho/clotho/model/SegmentEqualsPinLaw" = true := by first | (simp [plainName, overriddenIn]; done) | decide +kernel
theorem own_pd2 : parseMethodDescriptor "(JJ)V" = some ⟨[.long, .long], none⟩ := by decide +kernel
theorem own_d1_0 : decode method_2_code 0 = .ok (.lload_n 0, 1) := by decide +kernel
theorem own_d1_1 : decode method_2_code 1 = .ok (.lload_n 2, 1) := by decide +kernel
theorem own_d1_2 : decode method_2_code 2 = .ok (.lcmp, 1) := by decide +kernel
theorem own_d1_3 : decode method_2_code 3 = .ok (.ifCond .ge 13, 3) := by decide +kernel
theorem own_d1_6 : decode method_2_code 6 = .ok (.new 7, 3) := by decide +kernel
theorem own_d1_9 : decode method_2_code 9 = .ok (.dup, 1) := by decide +kernel
theorem own_d1_10 : decode method_2_code 10 = .ok (.lload_n 0, 1) := by decide +kernel
theorem own_d1_11 : decode method_2_code 11 = .ok (.lload_n 2, 1) := by decide +kernel
theorem own_d1_12 : decode method_2_code 12 = .ok (.invokespecial 9, 3) := by decide +kernel
theorem own_d1_15 : decode method_2_code 15 = .ok (.areturn, 1) := by decide +kernel
theorem own_d1_16 : decode method_2_code 16 = .ok (.lload_n 2, 1) := by decide +kernel
theorem own_d1_17 : decode method_2_code 17 = .ok (.lload_n 0, 1) := by decide +kernel
theorem own_d1_18 : decode method_2_code 18 = .ok (.lcmp, 1) := by decide +kernel
theorem own_d1_19 : decode method_2_code 19 = .ok (.ifCond .ge 13, 3) := by decide +kernel
theorem own_d1_22 : decode method_2_code 22 = .ok (.new 7, 3) := by decide +kernel
theorem own_d1_25 : decode method_2_code 25 = .ok (.dup, 1) := by decide +kernel
theorem own_d1_26 : decode method_2_code 26 = .ok (.lload_n 2, 1) := by decide +kernel
theorem own_d1_27 : decode method_2_code 27 = .ok (.lload_n 0, 1) := by decide +kernel
theorem own_d1_28 : decode method_2_code 28 = .ok (.invokespecial 9, 3) := by decide +kernel
theorem own_d1_31 : decode method_2_code 31 = .ok (.areturn, 1) := by decide +kernel
theorem own_d1_32 : decode method_2_code 32 = .ok (.lload_n 0, 1) := by decide +kernel
theorem own_d1_33 : decode method_2_code 33 = .ok (.ldc2_w 14, 3) := by decide +kernel
theorem own_d1_36 : decode method_2_code 36 = .ok (.lcmp, 1) := by decide +kernel
theorem own_d1_37 : decode method_2_code 37 = .ok (.ifCond .ne 15, 3) := by decide +kernel
theorem own_d1_40 : decode method_2_code 40 = .ok (.new 7, 3) := by decide +kernel
theorem own_d1_43 : decode method_2_code 43 = .ok (.dup, 1) := by decide +kernel
theorem own_d1_44 : decode method_2_code 44 = .ok (.lload_n 0, 1) := by decide +kernel
theorem own_d1_45 : decode method_2_code 45 = .ok (.lconst 1, 1) := by decide +kernel
theorem own_d1_46 : decode method_2_code 46 = .ok (.lsub, 1) := by decide +kernel
theorem own_d1_47 : decode method_2_code 47 = .ok (.lload_n 0, 1) := by decide +kernel
theorem own_d1_48 : decode method_2_code 48 = .ok (.invokespecial 9, 3) := by decide +kernel
theorem own_d1_51 : decode method_2_code 51 = .ok (.areturn, 1) := by decide +kernel
theorem own_d1_52 : decode method_2_code 52 = .ok (.new 7, 3) := by decide +kernel
theorem own_d1_55 : decode method_2_code 55 = .ok (.dup, 1) := by decide +kernel
theorem own_d1_56 : decode method_2_code 56 = .ok (.lload_n 0, 1) := by decide +kernel
theorem own_d1_57 : decode method_2_code 57 = .ok (.lload_n 0, 1) := by decide +kernel
theorem own_d1_58 : decode method_2_code 58 = .ok (.lconst 1, 1) := by decide +kernel
theorem own_d1_59 : decode method_2_code 59 = .ok (.ladd, 1) := by decide +kernel
theorem own_d1_60 : decode method_2_code 60 = .ok (.invokespecial 9, 3) := by decide +kernel
theorem own_d1_63 : decode method_2_code 63 = .ok (.areturn, 1) := by decide +kernel
def own_Q1 (Z : State) (xx : Int64) (xy : Int64) (h0 : Heap) (n0 : Nat) (v : Option Value) (h : Heap) (L : List Loc) : Prop := ∃ (xn : Addr), v = some (.ref xn) ∧ Fr n0 L ∧ Keep h0 h [] ∧ h0.size ≤ xn ∧ xn < h.size ∧ Exa Z h xn "com/example/clotho/clotho/model/Segment" ∧ Fld Z h xn "com/example/clotho/clotho/model/Segment" "start" "J" (.long (own_ms xx xy)) ∧ Fld Z h xn "com/example/clotho/clotho/model/Segment" "end" "J" (.long (own_me xx xy))
theorem own_ef1 (m : MethodId) (xx : Int64) (xy : Int64) : entryFrame m #[(.long xx), (.long xy)] 4 = mkF m 0 #[.val (.long xx), .second, .val (.long xy), .second] [] := by first | (simp [entryFrame, mkF, argsToLocals, Value.category]; done) | rfl
set_option maxRecDepth 65536 in
set_option maxHeartbeats 40000000 in
theorem own_rm1 (l : Launch) (Z : State) (a0 : Array Value) (hw : ∀ d ∈ tables_1, d.before a0 Z = true) (ws : List Jvm.Cond) (xx : Int64) (xy : Int64) (h0 : Heap) (n0 : Nat) (Z0 : n0 ≤ h0.size)  :
    MetFree l (⟨"com/example/clotho/clotho/model/SegmentEqualsPinLaw", "make", "(JJ)Lcom/example/clotho/clotho/model/Segment;"⟩ : MethodName) (head1 (Jvm.Cond.code (⟨"com/example/clotho/clotho/model/SegmentEqualsPinLaw", "make", "(JJ)Lcom/example/clotho/clotho/model/Segment;"⟩ : MethodName) method_2_code 4 (some (.object "com/example/clotho/clotho/model/Segment")) :: ws) ({ frames := 2, cells := 1, slots := 2, locals := 29 } : Room)) (fun a U => a = #[(.long xx), (.long xy)] ∧ Z.Warmed39 U.vm ∧ U.heap = h0) (fun _ _ _ _ _ => True) (fun _ U o U' => ∃ v L, o = .returned v ∧ own_Q1 Z xx xy h0 n0 v U'.heap L ∧ FrameEnd U o U' L ({ frames := 2, cells := 1, slots := 2, locals := 29 } : Room).cells ({ frames := 2, cells := 1, slots := 2, locals := 29 } : Room).slots) := by
  refine MetFree.of_bodySF (plainFor_of_name own_pn3) hisR ?_
  intro p e s m args below meth c s₁ Bd hml0 hP hK
  obtain ⟨rfl, hZ, hh⟩ := hP
  have hx := Bd.exec
  have hby := Bd.bytes
  have hml : c.maxLocals = 4 := hml0
  have hown : s.vm.findClass "com/example/clotho/clotho/model/SegmentEqualsPinLaw" = some m.cls := findClass_of_methodNamed Bd.named
  have hnm := (name_of_methodNamed Bd.named Bd.method).1
  have X0 : Stand p l e ({ frames := 2, cells := 1, slots := 2, locals := 29 } : Room) s m #[(.long xx), (.long xy)] below meth c s₁ [] 0 0 := Stand.of_body Bd
  have e0 : s₁.heap = h0 := by rw [← hh, Bd.state]; rfl
  have N0 := Fr.nil n0
  have pre0 : ∀ t, Steps p.tables e below (s₁.setTop (mkF m 0 #[.val (.long xx), .second, .val (.long xy), .second] [])) t → Steps p.tables e below (s₁.setTop (entryFrame m #[(.long xx), (.long xy)] 4)) t := fun t k => castTop (own_ef1 m xx xy) k
  have K0 : Keep h0 h0 [] := Keep.refl _ _
  have pre1 : ∀ t, Steps p.tables e below (s₁.setTop (mkF m 3 #[.val (.long xx), .second, .val (.long xy), .second] [(.int (lcmpW xx xy))])) t → Steps p.tables e below (s₁.setTop (entryFrame m #[(.long xx), (.long xy)] 4)) t := by
    intro t k
    refine pre0 _ ?_
    show Steps p.tables e below (s₁.setTop (mkF m 0 #[.val (.long xx), .second, .val (.long xy), .second] [])) _
    refine XS.lloadN X0.here hx rfl (hb hby own_d1_0) rfl ?_
    show Steps p.tables e below (s₁.setTop (mkF m 1 #[.val (.long xx), .second, .val (.long xy), .second] [(.long xx)])) _
    refine XS.lloadN X0.here hx rfl (hb hby own_d1_1) rfl ?_
    show Steps p.tables e below (s₁.setTop (mkF m 2 #[.val (.long xx), .second, .val (.long xy), .second] [(.long xy), (.long xx)])) _
    refine XS.lcmp X0.here hx rfl (hb hby own_d1_2) rfl ?_
    exact k
  by_cases hc3 : xx < xy
  · obtain ⟨T2, h2, X2, e2, E2, A2, D2, -, st2⟩ := newO X0 hx hZ hown (hw _ (List.mem_of_getElem? (i := 4) rfl)) (hw _ (List.mem_of_getElem? (i := 5) rfl)) (hw _ (List.mem_of_getElem? (i := 6) rfl)) e0 (g := (mkF m 6 #[.val (.long xx), .second, .val (.long xy), .second] [])) rfl (hb hby own_d1_6) (by decide) (by decide)
    obtain ⟨b2, g2⟩ : ∃ z, z = h0.size := ⟨_, rfl⟩
    rw [← g2] at A2 D2 st2
    have g_b2 : n0 ≤ b2 := Nat.le_trans Z0 (Nat.le_of_eq g2.symm)
    have sz_b2 : h0.size ≤ b2 := Nat.le_trans K0.1 (Nat.le_of_eq g2.symm)
    have K2 : Keep h0 h2 [] := K0.ext E2
    have Z2 : n0 ≤ h2.size := Nat.le_trans Z0 E2.1
    have F3 : Fld Z h2 b2 "com/example/clotho/clotho/model/Segment" "start" "J" (.long (0 : Int64)) := D2 (Or.inr (hw _ (List.mem_of_getElem? (i := 14) rfl))) (ty := .long) (by decide)
    have F4 : Fld Z h2 b2 "com/example/clotho/clotho/model/Segment" "end" "J" (.long (0 : Int64)) := D2 (Or.inr (hw _ (List.mem_of_getElem? (i := 16) rfl))) (ty := .long) (by decide)
    obtain ⟨_, _, ⟨T5, L5, k5, n5⟩, -, X5, ⟨Lc5, hQ5, l5, y5, z5⟩, st5⟩ := X2.specialBack hx (y := (⟨"com/example/clotho/clotho/model/Segment", "<init>", "(JJ)V"⟩ : MethodName)) rfl hown (mvT hZ (hw _ (List.mem_of_getElem? (i := 7) rfl))) (mvT hZ (hw _ (List.mem_of_getElem? (i := 8) rfl))) (mvT hZ (hw _ (List.mem_of_getElem? (i := 9) rfl))) (by decide) (backOf (W := 1) (own_rm2 l Z a0 hw [] b2 xx xy h2 n0 Z2 A2 F3 F4 g_b2 (hc3)) hZ (hw _ (List.mem_of_getElem? (i := 9) rfl)) (hw _ (List.mem_of_getElem? (i := 6) rfl)) (by decide) (by decide)) (g := (mkF m 12 #[.val (.long xx), .second, .val (.long xy), .second] [(.long xy), (.long xx), (.ref b2), (.ref b2)])) rfl (by rw [hml]; rfl) (Steps.refl _) (a := b2) (argsL := [(.long xx), (.long xy)]) (rest := [(.ref b2)]) (lenOf own_pd2 rfl) rfl (by show 2 * 0 + _ ≤ _; exact Nat.le_of_eq rfl) (hb hby own_d1_12) (fun _ _ => ⟨rfl, e2, (by decide : 1 + 0 ≤ _), (by decide : 2 + 0 ≤ _)⟩)
    dsimp only [Pt.U, Pt.locs, Pt.cells, Pt.slots] at X5 l5 y5 z5 st5 hQ5
    subst l5 y5 z5
    obtain ⟨rfl, N5q, K5q, F6, F7, F8⟩ := hQ5
    have K5 := K5q
    have KK5 : Keep h0 T5.heap [] := K2.trans K5 (allS (Or.inr sz_b2) all0)
    have F9 : Exa Z T5.heap b2 "com/example/clotho/clotho/model/Segment" := A2.keep K5
    have Z5 : n0 ≤ T5.heap.size := Nat.le_trans Z2 K5.1
    have N5 := Fr.app N0 N5q
    obtain ⟨fs, hr, hrun, hended, hW, hsame⟩ := X5.leave (v := some (.ref b2)) (fun h => by rw [Bd.returns] at h; cases h)
    have ev10 : (own_ms xx xy) = xx := by
      unfold own_ms
      rw [if_pos hc3]
    have ev11 : (own_me xx xy) = xy := by
      unfold own_me
      rw [if_pos hc3]
    refine ⟨_, _, pre1 _ ?_, hrun, hended, _, _, rfl, ?_, ⟨_, rfl⟩, hW, hsame.mono (by decide) (by decide)⟩
    · show Steps p.tables e below (s₁.setTop (mkF m 3 #[.val (.long xx), .second, .val (.long xy), .second] [(.int (lcmpW xx xy))])) _
      refine XS.ifNo X0.here hx rfl (hb hby own_d1_3) rfl ((if0 _ _).trans (tlt ((lw_lt xx xy).mpr hc3)).2.1) ?_
      show Steps p.tables e below (s₁.setTop (mkF m 6 #[.val (.long xx), .second, .val (.long xy), .second] [])) _
      refine st2 _ ?_
      show Steps p.tables e below (T2.setTop (mkF m 9 #[.val (.long xx), .second, .val (.long xy), .second] [(.ref b2)])) _
      refine XS.dup X2.here hx rfl (hb hby own_d1_9) rfl rfl ?_
      show Steps p.tables e below (T2.setTop (mkF m 10 #[.val (.long xx), .second, .val (.long xy), .second] [(.ref b2), (.ref b2)])) _
      refine XS.lloadN X2.here hx rfl (hb hby own_d1_10) rfl ?_
      show Steps p.tables e below (T2.setTop (mkF m 11 #[.val (.long xx), .second, .val (.long xy), .second] [(.long xx), (.ref b2), (.ref b2)])) _
      refine XS.lloadN X2.here hx rfl (hb hby own_d1_11) rfl ?_
      show Steps p.tables e below (T2.setTop (mkF m 12 #[.val (.long xx), .second, .val (.long xy), .second] [(.long xy), (.long xx), (.ref b2), (.ref b2)])) _
      refine st5.trans ?_
      show Steps p.tables e below (T5.setTop (mkF m 15 #[.val (.long xx), .second, .val (.long xy), .second] [(.ref b2)])) _
      exact retA X5 hx Bd.returns rfl rfl rfl (hb hby own_d1_15) hr
    · show own_Q1 Z xx xy h0 n0 _ T5.heap _
      exact ⟨b2, rfl, N5, KK5, sz_b2, F6.lt, F6, (by rw [ev10]; exact F7), (by rw [ev11]; exact F8)⟩
  · have pre12 : ∀ t, Steps p.tables e below (s₁.setTop (mkF m 19 #[.val (.long xx), .second, .val (.long xy), .second] [(.int (lcmpW xy xx))])) t → Steps p.tables e below (s₁.setTop (entryFrame m #[(.long xx), (.long xy)] 4)) t := by
      intro t k
      refine pre1 _ ?_
      show Steps p.tables e below (s₁.setTop (mkF m 3 #[.val (.long xx), .second, .val (.long xy), .second] [(.int (lcmpW xx xy))])) _
      refine XS.ifYes X0.here hx rfl (pc0 := 3) (pc' := 16) rfl (hb hby own_d1_3) rfl ((if0 _ _).trans (flt (fun z => hc3 ((lw_lt xx xy).mp z))).2.1) (by decide) (by decide) ?_
      show Steps p.tables e below (s₁.setTop (mkF m 16 #[.val (.long xx), .second, .val (.long xy), .second] [])) _
      refine XS.lloadN X0.here hx rfl (hb hby own_d1_16) rfl ?_
      show Steps p.tables e below (s₁.setTop (mkF m 17 #[.val (.long xx), .second, .val (.long xy), .second] [(.long xy)])) _
      refine XS.lloadN X0.here hx rfl (hb hby own_d1_17) rfl ?_
      show Steps p.tables e below (s₁.setTop (mkF m 18 #[.val (.long xx), .second, .val (.long xy), .second] [(.long xx), (.long xy)])) _
      refine XS.lcmp X0.here hx rfl (hb hby own_d1_18) rfl ?_
      exact k
    by_cases hc19 : xy < xx
    · obtain ⟨T13, h13, X13, e13, E13, A13, D13, -, st13⟩ := newO X0 hx hZ hown (hw _ (List.mem_of_getElem? (i := 4) rfl)) (hw _ (List.mem_of_getElem? (i := 5) rfl)) (hw _ (List.mem_of_getElem? (i := 6) rfl)) e0 (g := (mkF m 22 #[.val (.long xx), .second, .val (.long xy), .second] [])) rfl (hb hby own_d1_22) (by decide) (by decide)
      obtain ⟨b13, g13⟩ : ∃ z, z = h0.size := ⟨_, rfl⟩
      rw [← g13] at A13 D13 st13
      have g_b13 : n0 ≤ b13 := Nat.le_trans Z0 (Nat.le_of_eq g13.symm)
      have sz_b13 : h0.size ≤ b13 := Nat.le_trans K0.1 (Nat.le_of_eq g13.symm)
      have K13 : Keep h0 h13 [] := K0.ext E13
      have Z13 : n0 ≤ h13.size := Nat.le_trans Z0 E13.1
      have F14 : Fld Z h13 b13 "com/example/clotho/clotho/model/Segment" "start" "J" (.long (0 : Int64)) := D13 (Or.inr (hw _ (List.mem_of_getElem? (i := 14) rfl))) (ty := .long) (by decide)
      have F15 : Fld Z h13 b13 "com/example/clotho/clotho/model/Segment" "end" "J" (.long (0 : Int64)) := D13 (Or.inr (hw _ (List.mem_of_getElem? (i := 16) rfl))) (ty := .long) (by decide)
      obtain ⟨_, _, ⟨T16, L16, k16, n16⟩, -, X16, ⟨Lc16, hQ16, l16, y16, z16⟩, st16⟩ := X13.specialBack hx (y := (⟨"com/example/clotho/clotho/model/Segment", "<init>", "(JJ)V"⟩ : MethodName)) rfl hown (mvT hZ (hw _ (List.mem_of_getElem? (i := 7) rfl))) (mvT hZ (hw _ (List.mem_of_getElem? (i := 8) rfl))) (mvT hZ (hw _ (List.mem_of_getElem? (i := 9) rfl))) (by decide) (backOf (W := 1) (own_rm2 l Z a0 hw [] b13 xy xx h13 n0 Z13 A13 F14 F15 g_b13 (hc19)) hZ (hw _ (List.mem_of_getElem? (i := 9) rfl)) (hw _ (List.mem_of_getElem? (i := 6) rfl)) (by decide) (by decide)) (g := (mkF m 28 #[.val (.long xx), .second, .val (.long xy), .second] [(.long xx), (.long xy), (.ref b13), (.ref b13)])) rfl (by rw [hml]; rfl) (Steps.refl _) (a := b13) (argsL := [(.long xy), (.long xx)]) (rest := [(.ref b13)]) (lenOf own_pd2 rfl) rfl (by show 2 * 0 + _ ≤ _; exact Nat.le_of_eq rfl) (hb hby own_d1_28) (fun _ _ => ⟨rfl, e13, (by decide : 1 + 0 ≤ _), (by decide : 2 + 0 ≤ _)⟩)
      dsimp only [Pt.U, Pt.locs, Pt.cells, Pt.slots] at X16 l16 y16 z16 st16 hQ16
      subst l16 y16 z16
      obtain ⟨rfl, N16q, K16q, F17, F18, F19⟩ := hQ16
      have K16 := K16q
      have KK16 : Keep h0 T16.heap [] := K13.trans K16 (allS (Or.inr sz_b13) all0)
      have F20 : Exa Z T16.heap b13 "com/example/clotho/clotho/model/Segment" := A13.keep K16
      have Z16 : n0 ≤ T16.heap.size := Nat.le_trans Z13 K16.1
      have N16 := Fr.app N0 N16q
      obtain ⟨fs, hr, hrun, hended, hW, hsame⟩ := X16.leave (v := some (.ref b13)) (fun h => by rw [Bd.returns] at h; cases h)
      have ev21 : (own_ms xx xy) = xy := by
        unfold own_ms
        rw [if_neg hc3, if_pos hc19]
      have ev22 : (own_me xx xy) = xx := by
        unfold own_me
        rw [if_neg hc3, if_pos hc19]
      refine ⟨_, _, pre12 _ ?_, hrun, hended, _, _, rfl, ?_, ⟨_, rfl⟩, hW, hsame.mono (by decide) (by decide)⟩
      · show Steps p.tables e below (s₁.setTop (mkF m 19 #[.val (.long xx), .second, .val (.long xy), .second] [(.int (lcmpW xy xx))])) _
        refine XS.ifNo X0.here hx rfl (hb hby own_d1_19) rfl ((if0 _ _).trans (tlt ((lw_lt xy xx).mpr hc19)).2.1) ?_
        show Steps p.tables e below (s₁.setTop (mkF m 22 #[.val (.long xx), .second, .val (.long xy), .second] [])) _
        refine st13 _ ?_
        show Steps p.tables e below (T13.setTop (mkF m 25 #[.val (.long xx), .second, .val (.long xy), .second] [(.ref b13)])) _
        refine XS.dup X13.here hx rfl (hb hby own_d1_25) rfl rfl ?_
        show Steps p.tables e below (T13.setTop (mkF m 26 #[.val (.long xx), .second, .val (.long xy), .second] [(.ref b13), (.ref b13)])) _
        refine XS.lloadN X13.here hx rfl (hb hby own_d1_26) rfl ?_
        show Steps p.tables e below (T13.setTop (mkF m 27 #[.val (.long xx), .second, .val (.long xy), .second] [(.long xy), (.ref b13), (.ref b13)])) _
        refine XS.lloadN X13.here hx rfl (hb hby own_d1_27) rfl ?_
        show Steps p.tables e below (T13.setTop (mkF m 28 #[.val (.long xx), .second, .val (.long xy), .second] [(.long xx), (.long xy), (.ref b13), (.ref b13)])) _
        refine st16.trans ?_
        show Steps p.tables e below (T16.setTop (mkF m 31 #[.val (.long xx), .second, .val (.long xy), .second] [(.ref b13)])) _
        exact retA X16 hx Bd.returns rfl rfl rfl (hb hby own_d1_31) hr
      · show own_Q1 Z xx xy h0 n0 _ T16.heap _
        exact ⟨b13, rfl, N16, KK16, sz_b13, F17.lt, F17, (by rw [ev21]; exact F18), (by rw [ev22]; exact F19)⟩
    · have pre23 : ∀ t, Steps p.tables e below (s₁.setTop (mkF m 37 #[.val (.long xx), .second, .val (.long xy), .second] [(.int (lcmpW xx (9223372036854775807 : Int64)))])) t → Steps p.tables e below (s₁.setTop (entryFrame m #[(.long xx), (.long xy)] 4)) t := by
        intro t k
        refine pre12 _ ?_
        show Steps p.tables e below (s₁.setTop (mkF m 19 #[.val (.long xx), .second, .val (.long xy), .second] [(.int (lcmpW xy xx))])) _
        refine XS.ifYes X0.here hx rfl (pc0 := 19) (pc' := 32) rfl (hb hby own_d1_19) rfl ((if0 _ _).trans (flt (fun z => hc19 ((lw_lt xy xx).mp z))).2.1) (by decide) (by decide) ?_
        show Steps p.tables e below (s₁.setTop (mkF m 32 #[.val (.long xx), .second, .val (.long xy), .second] [])) _
        refine XS.lloadN X0.here hx rfl (hb hby own_d1_32) rfl ?_
        show Steps p.tables e below (s₁.setTop (mkF m 33 #[.val (.long xx), .second, .val (.long xy), .second] [(.long xx)])) _
        refine X0.ldc2Long hx hown (mvT hZ (hw _ (List.mem_of_getElem? (i := 60) rfl))) (g := (mkF m 33 #[.val (.long xx), .second, .val (.long xy), .second] [(.long xx)])) rfl (hb hby own_d1_33) _ ?_
        show Steps p.tables e below (s₁.setTop (mkF m 36 #[.val (.long xx), .second, .val (.long xy), .second] [(.long (9223372036854775807 : Int64)), (.long xx)])) _
        refine XS.lcmp X0.here hx rfl (hb hby own_d1_36) rfl ?_
        exact k
      by_cases hc37 : xx = (9223372036854775807 : Int64)
      · obtain ⟨T24, h24, X24, e24, E24, A24, D24, -, st24⟩ := newO X0 hx hZ hown (hw _ (List.mem_of_getElem? (i := 4) rfl)) (hw _ (List.mem_of_getElem? (i := 5) rfl)) (hw _ (List.mem_of_getElem? (i := 6) rfl)) e0 (g := (mkF m 40 #[.val (.long xx), .second, .val (.long xy), .second] [])) rfl (hb hby own_d1_40) (by decide) (by decide)
        obtain ⟨b24, g24⟩ : ∃ z, z = h0.size := ⟨_, rfl⟩
        rw [← g24] at A24 D24 st24
        have g_b24 : n0 ≤ b24 := Nat.le_trans Z0 (Nat.le_of_eq g24.symm)
        have sz_b24 : h0.size ≤ b24 := Nat.le_trans K0.1 (Nat.le_of_eq g24.symm)
        have K24 : Keep h0 h24 [] := K0.ext E24
        have Z24 : n0 ≤ h24.size := Nat.le_trans Z0 E24.1
        have F25 : Fld Z h24 b24 "com/example/clotho/clotho/model/Segment" "start" "J" (.long (0 : Int64)) := D24 (Or.inr (hw _ (List.mem_of_getElem? (i := 14) rfl))) (ty := .long) (by decide)
        have F26 : Fld Z h24 b24 "com/example/clotho/clotho/model/Segment" "end" "J" (.long (0 : Int64)) := D24 (Or.inr (hw _ (List.mem_of_getElem? (i := 16) rfl))) (ty := .long) (by decide)
        obtain ⟨_, _, ⟨T27, L27, k27, n27⟩, -, X27, ⟨Lc27, hQ27, l27, y27, z27⟩, st27⟩ := X24.specialBack hx (y := (⟨"com/example/clotho/clotho/model/Segment", "<init>", "(JJ)V"⟩ : MethodName)) rfl hown (mvT hZ (hw _ (List.mem_of_getElem? (i := 7) rfl))) (mvT hZ (hw _ (List.mem_of_getElem? (i := 8) rfl))) (mvT hZ (hw _ (List.mem_of_getElem? (i := 9) rfl))) (by decide) (backOf (W := 1) (own_rm2 l Z a0 hw [] b24 (xx - (1 : Int64)) xx h24 n0 Z24 A24 F25 F26 g_b24 (own_lt1 hc37)) hZ (hw _ (List.mem_of_getElem? (i := 9) rfl)) (hw _ (List.mem_of_getElem? (i := 6) rfl)) (by decide) (by decide)) (g := (mkF m 48 #[.val (.long xx), .second, .val (.long xy), .second] [(.long xx), (.long (xx - (1 : Int64))), (.ref b24), (.ref b24)])) rfl (by rw [hml]; rfl) (Steps.refl _) (a := b24) (argsL := [(.long (xx - (1 : Int64))), (.long xx)]) (rest := [(.ref b24)]) (lenOf own_pd2 rfl) rfl (by show 2 * 0 + _ ≤ _; exact Nat.le_of_eq rfl) (hb hby own_d1_48) (fun _ _ => ⟨rfl, e24, (by decide : 1 + 0 ≤ _), (by decide : 2 + 0 ≤ _)⟩)
        dsimp only [Pt.U, Pt.locs, Pt.cells, Pt.slots] at X27 l27 y27 z27 st27 hQ27
        subst l27 y27 z27
        obtain ⟨rfl, N27q, K27q, F28, F29, F30⟩ := hQ27
        have K27 := K27q
        have KK27 : Keep h0 T27.heap [] := K24.trans K27 (allS (Or.inr sz_b24) all0)
        have F31 : Exa Z T27.heap b24 "com/example/clotho/clotho/model/Segment" := A24.keep K27
        have Z27 : n0 ≤ T27.heap.size := Nat.le_trans Z24 K27.1
        have N27 := Fr.app N0 N27q
        obtain ⟨fs, hr, hrun, hended, hW, hsame⟩ := X27.leave (v := some (.ref b24)) (fun h => by rw [Bd.returns] at h; cases h)
        have ev32 : (own_ms xx xy) = (xx - (1 : Int64)) := by
          unfold own_ms
          rw [if_neg hc3, if_neg hc19, if_pos hc37]
        have ev33 : (own_me xx xy) = xx := by
          unfold own_me
          rw [if_neg hc3, if_neg hc19, if_pos hc37]
        refine ⟨_, _, pre23 _ ?_, hrun, hended, _, _, rfl, ?_, ⟨_, rfl⟩, hW, hsame.mono (by decide) (by decide)⟩
        · show Steps p.tables e below (s₁.setTop (mkF m 37 #[.val (.long xx), .second, .val (.long xy), .second] [(.int (lcmpW xx (9223372036854775807 : Int64)))])) _
          refine XS.ifNo X0.here hx rfl (hb hby own_d1_37) rfl ((if0 _ _).trans (teq ((lw_eq xx (9223372036854775807 : Int64)).mpr hc37)).2) ?_
          show Steps p.tables e below (s₁.setTop (mkF m 40 #[.val (.long xx), .second, .val (.long xy), .second] [])) _
          refine st24 _ ?_
          show Steps p.tables e below (T24.setTop (mkF m 43 #[.val (.long xx), .second, .val (.long xy), .second] [(.ref b24)])) _
          refine XS.dup X24.here hx rfl (hb hby own_d1_43) rfl rfl ?_
          show Steps p.tables e below (T24.setTop (mkF m 44 #[.val (.long xx), .second, .val (.long xy), .second] [(.ref b24), (.ref b24)])) _
          refine XS.lloadN X24.here hx rfl (hb hby own_d1_44) rfl ?_
          show Steps p.tables e below (T24.setTop (mkF m 45 #[.val (.long xx), .second, .val (.long xy), .second] [(.long xx), (.ref b24), (.ref b24)])) _
          refine XS.lconst X24.here hx rfl (hb hby own_d1_45) ?_
          show Steps p.tables e below (T24.setTop (mkF m 46 #[.val (.long xx), .second, .val (.long xy), .second] [(.long (1 : Int64)), (.long xx), (.ref b24), (.ref b24)])) _
          refine XS.lsub X24.here hx rfl (hb hby own_d1_46) rfl ?_
          show Steps p.tables e below (T24.setTop (mkF m 47 #[.val (.long xx), .second, .val (.long xy), .second] [(.long (xx - (1 : Int64))), (.ref b24), (.ref b24)])) _
          refine XS.lloadN X24.here hx rfl (hb hby own_d1_47) rfl ?_
          show Steps p.tables e below (T24.setTop (mkF m 48 #[.val (.long xx), .second, .val (.long xy), .second] [(.long xx), (.long (xx - (1 : Int64))), (.ref b24), (.ref b24)])) _
          refine st27.trans ?_
          show Steps p.tables e below (T27.setTop (mkF m 51 #[.val (.long xx), .second, .val (.long xy), .second] [(.ref b24)])) _
          exact retA X27 hx Bd.returns rfl rfl rfl (hb hby own_d1_51) hr
        · show own_Q1 Z xx xy h0 n0 _ T27.heap _
          exact ⟨b24, rfl, N27, KK27, sz_b24, F28.lt, F28, (by rw [ev32]; exact F29), (by rw [ev33]; exact F30)⟩
      · obtain ⟨T34, h34, X34, e34, E34, A34, D34, -, st34⟩ := newO X0 hx hZ hown (hw _ (List.mem_of_getElem? (i := 4) rfl)) (hw _ (List.mem_of_getElem? (i := 5) rfl)) (hw _ (List.mem_of_getElem? (i := 6) rfl)) e0 (g := (mkF m 52 #[.val (.long xx), .second, .val (.long xy), .second] [])) rfl (hb hby own_d1_52) (by decide) (by decide)
        obtain ⟨b34, g34⟩ : ∃ z, z = h0.size := ⟨_, rfl⟩
        rw [← g34] at A34 D34 st34
        have g_b34 : n0 ≤ b34 := Nat.le_trans Z0 (Nat.le_of_eq g34.symm)
        have sz_b34 : h0.size ≤ b34 := Nat.le_trans K0.1 (Nat.le_of_eq g34.symm)
        have K34 : Keep h0 h34 [] := K0.ext E34
        have Z34 : n0 ≤ h34.size := Nat.le_trans Z0 E34.1
        have F35 : Fld Z h34 b34 "com/example/clotho/clotho/model/Segment" "start" "J" (.long (0 : Int64)) := D34 (Or.inr (hw _ (List.mem_of_getElem? (i := 14) rfl))) (ty := .long) (by decide)
        have F36 : Fld Z h34 b34 "com/example/clotho/clotho/model/Segment" "end" "J" (.long (0 : Int64)) := D34 (Or.inr (hw _ (List.mem_of_getElem? (i := 16) rfl))) (ty := .long) (by decide)
        obtain ⟨_, _, ⟨T37, L37, k37, n37⟩, -, X37, ⟨Lc37, hQ37, l37, y37, z37⟩, st37⟩ := X34.specialBack hx (y := (⟨"com/example/clotho/clotho/model/Segment", "<init>", "(JJ)V"⟩ : MethodName)) rfl hown (mvT hZ (hw _ (List.mem_of_getElem? (i := 7) rfl))) (mvT hZ (hw _ (List.mem_of_getElem? (i := 8) rfl))) (mvT hZ (hw _ (List.mem_of_getElem? (i := 9) rfl))) (by decide) (backOf (W := 1) (own_rm2 l Z a0 hw [] b34 xx (xx + (1 : Int64)) h34 n0 Z34 A34 F35 F36 g_b34 (own_lt2 hc37)) hZ (hw _ (List.mem_of_getElem? (i := 9) rfl)) (hw _ (List.mem_of_getElem? (i := 6) rfl)) (by decide) (by decide)) (g := (mkF m 60 #[.val (.long xx), .second, .val (.long xy), .second] [(.long (xx + (1 : Int64))), (.long xx), (.ref b34), (.ref b34)])) rfl (by rw [hml]; rfl) (Steps.refl _) (a := b34) (argsL := [(.long xx), (.long (xx + (1 : Int64)))]) (rest := [(.ref b34)]) (lenOf own_pd2 rfl) rfl (by show 2 * 0 + _ ≤ _; exact Nat.le_of_eq rfl) (hb hby own_d1_60) (fun _ _ => ⟨rfl, e34, (by decide : 1 + 0 ≤ _), (by decide : 2 + 0 ≤ _)⟩)
        dsimp only [Pt.U, Pt.locs, Pt.cells, Pt.slots] at X37 l37 y37 z37 st37 hQ37
        subst l37 y37 z37
        obtain ⟨rfl, N37q, K37q, F38, F39, F40⟩ := hQ37
        have K37 := K37q
        have KK37 : Keep h0 T37.heap [] := K34.trans K37 (allS (Or.inr sz_b34) all0)
        have F41 : Exa Z T37.heap b34 "com/example/clotho/clotho/model/Segment" := A34.keep K37
        have Z37 : n0 ≤ T37.heap.size := Nat.le_trans Z34 K37.1
        have N37 := Fr.app N0 N37q
        obtain ⟨fs, hr, hrun, hended, hW, hsame⟩ := X37.leave (v := some (.ref b34)) (fun h => by rw [Bd.returns] at h; cases h)
        have ev42 : (own_ms xx xy) = xx := by
          unfold own_ms
          rw [if_neg hc3, if_neg hc19, if_neg hc37]
        have ev43 : (own_me xx xy) = (xx + (1 : Int64)) := by
          unfold own_me
          rw [if_neg hc3, if_neg hc19, if_neg hc37]
        refine ⟨_, _, pre23 _ ?_, hrun, hended, _, _, rfl, ?_, ⟨_, rfl⟩, hW, hsame.mono (by decide) (by decide)⟩
        · show Steps p.tables e below (s₁.setTop (mkF m 37 #[.val (.long xx), .second, .val (.long xy), .second] [(.int (lcmpW xx (9223372036854775807 : Int64)))])) _
          refine XS.ifYes X0.here hx rfl (pc0 := 37) (pc' := 52) rfl (hb hby own_d1_37) rfl ((if0 _ _).trans (feq (fun z => hc37 ((lw_eq xx (9223372036854775807 : Int64)).mp z))).2) (by decide) (by decide) ?_
          show Steps p.tables e below (s₁.setTop (mkF m 52 #[.val (.long xx), .second, .val (.long xy), .second] [])) _
          refine st34 _ ?_
          show Steps p.tables e below (T34.setTop (mkF m 55 #[.val (.long xx), .second, .val (.long xy), .second] [(.ref b34)])) _
          refine XS.dup X34.here hx rfl (hb hby own_d1_55) rfl rfl ?_
          show Steps p.tables e below (T34.setTop (mkF m 56 #[.val (.long xx), .second, .val (.long xy), .second] [(.ref b34), (.ref b34)])) _
          refine XS.lloadN X34.here hx rfl (hb hby own_d1_56) rfl ?_
          show Steps p.tables e below (T34.setTop (mkF m 57 #[.val (.long xx), .second, .val (.long xy), .second] [(.long xx), (.ref b34), (.ref b34)])) _
          refine XS.lloadN X34.here hx rfl (hb hby own_d1_57) rfl ?_
          show Steps p.tables e below (T34.setTop (mkF m 58 #[.val (.long xx), .second, .val (.long xy), .second] [(.long xx), (.long xx), (.ref b34), (.ref b34)])) _
          refine XS.lconst X34.here hx rfl (hb hby own_d1_58) ?_
          show Steps p.tables e below (T34.setTop (mkF m 59 #[.val (.long xx), .second, .val (.long xy), .second] [(.long (1 : Int64)), (.long xx), (.long xx), (.ref b34), (.ref b34)])) _
          refine XS.ladd X34.here hx rfl (hb hby own_d1_59) rfl ?_
          show Steps p.tables e below (T34.setTop (mkF m 60 #[.val (.long xx), .second, .val (.long xy), .second] [(.long (xx + (1 : Int64))), (.long xx), (.ref b34), (.ref b34)])) _
          refine st37.trans ?_
          show Steps p.tables e below (T37.setTop (mkF m 63 #[.val (.long xx), .second, .val (.long xy), .second] [(.ref b34)])) _
          exact retA X37 hx Bd.returns rfl rfl rfl (hb hby own_d1_63) hr
        · show own_Q1 Z xx xy h0 n0 _ T37.heap _
          exact ⟨b34, rfl, N37, KK37, sz_b34, F38.lt, F38, (by rw [ev42]; exact F39), (by rw [ev43]; exact F40)⟩
theorem own_d4_0 : decode prog_43_method_2_code 0 = .ok (.aload_n 0, 1) := by decide +kernel
theorem own_d4_1 : decode prog_43_method_2_code 1 = .ok (.getfield 16, 3) := by decide +kernel
theorem own_d4_4 : decode prog_43_method_2_code 4 = .ok (.lreturn, 1) := by decide +kernel
def own_Q4 (Z : State) (xthis : Addr) (xw : Int64) (h0 : Heap) (n0 : Nat) (v : Option Value) (h : Heap) (L : List Loc) : Prop := v = some (.long xw) ∧ Fr n0 L ∧ h = h0
theorem own_ef4 (m : MethodId) (xthis : Addr) : entryFrame m #[(.ref xthis)] 1 = mkF m 0 #[.val (.ref xthis)] [] := by first | (simp [entryFrame, mkF, argsToLocals, Value.category]; done) | rfl
set_option maxRecDepth 65536 in
set_option maxHeartbeats 40000000 in
theorem own_rm4 (l : Launch) (Z : State) (a0 : Array Value) (hw : ∀ d ∈ tables_1, d.before a0 Z = true) (ws : List Jvm.Cond) (xthis : Addr) (xw : Int64) (h0 : Heap) (n0 : Nat) (Z0 : n0 ≤ h0.size) (F_start_xthis : Fld Z h0 xthis "com/example/clotho/clotho/model/Segment" "start" "J" (.long xw)) :
    MetFree l (⟨"com/example/clotho/clotho/model/Segment", "getStart", "()J"⟩ : MethodName) (head1 (Jvm.Cond.code (⟨"com/example/clotho/clotho/model/Segment", "getStart", "()J"⟩ : MethodName) prog_43_method_2_code 1 (some .long) :: ws) ({ frames := 0, cells := 0, slots := 0, locals := 0 } : Room)) (fun a U => a = #[(.ref xthis)] ∧ Z.Warmed39 U.vm ∧ U.heap = h0) (fun _ _ _ _ _ => True) (fun _ U o U' => ∃ v L, o = .returned v ∧ own_Q4 Z xthis xw h0 n0 v U'.heap L ∧ FrameEnd U o U' L ({ frames := 0, cells := 0, slots := 0, locals := 0 } : Room).cells ({ frames := 0, cells := 0, slots := 0, locals := 0 } : Room).slots) := by
  refine MetFree.of_bodySF (plainFor_of_name own_pn2) hisR ?_
  intro p e s m args below meth c s₁ Bd hml0 hP hK
  obtain ⟨rfl, hZ, hh⟩ := hP
  have hx := Bd.exec
  have hby := Bd.bytes
  have hml : c.maxLocals = 1 := hml0
  have hown : s.vm.findClass "com/example/clotho/clotho/model/Segment" = some m.cls := findClass_of_methodNamed Bd.named
  have hnm := (name_of_methodNamed Bd.named Bd.method).1
  have X0 : Stand p l e ({ frames := 0, cells := 0, slots := 0, locals := 0 } : Room) s m #[(.ref xthis)] below meth c s₁ [] 0 0 := Stand.of_body Bd
  have e0 : s₁.heap = h0 := by rw [← hh, Bd.state]; rfl
  have N0 := Fr.nil n0
  have pre0 : ∀ t, Steps p.tables e below (s₁.setTop (mkF m 0 #[.val (.ref xthis)] [])) t → Steps p.tables e below (s₁.setTop (entryFrame m #[(.ref xthis)] 1)) t := fun t k => castTop (own_ef4 m xthis) k
  obtain ⟨T1, X1, e1, st1⟩ := getF X0 hx hZ hown (host := "") (Or.inl (hw _ (List.mem_of_getElem? (i := 13) rfl))) Via.refl e0 F_start_xthis (g := (mkF m 1 #[.val (.ref xthis)] [(.ref xthis)])) rfl rfl (hb hby own_d4_1)
  obtain ⟨fs, hr, hrun, hended, hW, hsame⟩ := X1.leave (v := some (.long xw)) (fun h => by rw [Bd.returns] at h; cases h)
  refine ⟨_, _, pre0 _ ?_, hrun, hended, _, _, rfl, ?_, ⟨_, rfl⟩, hW, hsame.mono (by decide) (by decide)⟩
  · show Steps p.tables e below (s₁.setTop (mkF m 0 #[.val (.ref xthis)] [])) _
    refine XS.aloadN X0.here hx rfl (hb hby own_d4_0) rfl rfl ?_
    show Steps p.tables e below (s₁.setTop (mkF m 1 #[.val (.ref xthis)] [(.ref xthis)])) _
    refine st1 _ ?_
    show Steps p.tables e below (T1.setTop (mkF m 4 #[.val (.ref xthis)] [(.long xw)])) _
    exact retJ X1 hx Bd.returns (hb hby own_d4_4) hr
  · show own_Q4 Z xthis xw h0 n0 _ T1.heap _
    rw [e1]
    exact ⟨rfl, N0, rfl⟩
theorem own_d5_0 : decode prog_43_method_3_code 0 = .ok (.aload_n 0, 1) := by decide +kernel
theorem own_d5_1 : decode prog_43_method_3_code 1 = .ok (.getfield 22, 3) := by decide +kernel
theorem own_d5_4 : decode prog_43_method_3_code 4 = .ok (.lreturn, 1) := by decide +kernel
def own_Q5 (Z : State) (xthis : Addr) (xw : Int64) (h0 : Heap) (n0 : Nat) (v : Option Value) (h : Heap) (L : List Loc) : Prop := v = some (.long xw) ∧ Fr n0 L ∧ h = h0
theorem own_ef5 (m : MethodId) (xthis : Addr) : entryFrame m #[(.ref xthis)] 1 = mkF m 0 #[.val (.ref xthis)] [] := by first | (simp [entryFrame, mkF, argsToLocals, Value.category]; done) | rfl
set_option maxRecDepth 65536 in
set_option maxHeartbeats 40000000 in
theorem own_rm5 (l : Launch) (Z : State) (a0 : Array Value) (hw : ∀ d ∈ tables_1, d.before a0 Z = true) (ws : List Jvm.Cond) (xthis : Addr) (xw : Int64) (h0 : Heap) (n0 : Nat) (Z0 : n0 ≤ h0.size) (F_end_xthis : Fld Z h0 xthis "com/example/clotho/clotho/model/Segment" "end" "J" (.long xw)) :
    MetFree l (⟨"com/example/clotho/clotho/model/Segment", "getEnd", "()J"⟩ : MethodName) (head1 (Jvm.Cond.code (⟨"com/example/clotho/clotho/model/Segment", "getEnd", "()J"⟩ : MethodName) prog_43_method_3_code 1 (some .long) :: ws) ({ frames := 0, cells := 0, slots := 0, locals := 0 } : Room)) (fun a U => a = #[(.ref xthis)] ∧ Z.Warmed39 U.vm ∧ U.heap = h0) (fun _ _ _ _ _ => True) (fun _ U o U' => ∃ v L, o = .returned v ∧ own_Q5 Z xthis xw h0 n0 v U'.heap L ∧ FrameEnd U o U' L ({ frames := 0, cells := 0, slots := 0, locals := 0 } : Room).cells ({ frames := 0, cells := 0, slots := 0, locals := 0 } : Room).slots) := by
  refine MetFree.of_bodySF (plainFor_of_name own_pn2) hisR ?_
  intro p e s m args below meth c s₁ Bd hml0 hP hK
  obtain ⟨rfl, hZ, hh⟩ := hP
  have hx := Bd.exec
  have hby := Bd.bytes
  have hml : c.maxLocals = 1 := hml0
  have hown : s.vm.findClass "com/example/clotho/clotho/model/Segment" = some m.cls := findClass_of_methodNamed Bd.named
  have hnm := (name_of_methodNamed Bd.named Bd.method).1
  have X0 : Stand p l e ({ frames := 0, cells := 0, slots := 0, locals := 0 } : Room) s m #[(.ref xthis)] below meth c s₁ [] 0 0 := Stand.of_body Bd
  have e0 : s₁.heap = h0 := by rw [← hh, Bd.state]; rfl
  have N0 := Fr.nil n0
  have pre0 : ∀ t, Steps p.tables e below (s₁.setTop (mkF m 0 #[.val (.ref xthis)] [])) t → Steps p.tables e below (s₁.setTop (entryFrame m #[(.ref xthis)] 1)) t := fun t k => castTop (own_ef5 m xthis) k
  obtain ⟨T1, X1, e1, st1⟩ := getF X0 hx hZ hown (host := "") (Or.inl (hw _ (List.mem_of_getElem? (i := 15) rfl))) Via.refl e0 F_end_xthis (g := (mkF m 1 #[.val (.ref xthis)] [(.ref xthis)])) rfl rfl (hb hby own_d5_1)
  obtain ⟨fs, hr, hrun, hended, hW, hsame⟩ := X1.leave (v := some (.long xw)) (fun h => by rw [Bd.returns] at h; cases h)
  refine ⟨_, _, pre0 _ ?_, hrun, hended, _, _, rfl, ?_, ⟨_, rfl⟩, hW, hsame.mono (by decide) (by decide)⟩
  · show Steps p.tables e below (s₁.setTop (mkF m 0 #[.val (.ref xthis)] [])) _
    refine XS.aloadN X0.here hx rfl (hb hby own_d5_0) rfl rfl ?_
    show Steps p.tables e below (s₁.setTop (mkF m 1 #[.val (.ref xthis)] [(.ref xthis)])) _
    refine st1 _ ?_
    show Steps p.tables e below (T1.setTop (mkF m 4 #[.val (.ref xthis)] [(.long xw)])) _
    exact retJ X1 hx Bd.returns (hb hby own_d5_4) hr
  · show own_Q5 Z xthis xw h0 n0 _ T1.heap _
    rw [e1]
    exact ⟨rfl, N0, rfl⟩
theorem own_d6_0 : decode prog_43_method_4_code 0 = .ok (.aload_n 1, 1) := by decide +kernel
theorem own_d6_1 : decode prog_43_method_4_code 1 = .ok (.instanceof 17, 3) := by decide +kernel
theorem own_d6_4 : decode prog_43_method_4_code 4 = .ok (.ifCond .eq 11, 3) := by decide +kernel
theorem own_d6_7 : decode prog_43_method_4_code 7 = .ok (.aload_n 1, 1) := by decide +kernel
theorem own_d6_8 : decode prog_43_method_4_code 8 = .ok (.checkcast 17, 3) := by decide +kernel
theorem own_d6_11 : decode prog_43_method_4_code 11 = .ok (.astore_n 2, 1) := by decide +kernel
theorem own_d6_12 : decode prog_43_method_4_code 12 = .ok (.goto 5, 3) := by decide +kernel
theorem own_d6_17 : decode prog_43_method_4_code 17 = .ok (.aload_n 0, 1) := by decide +kernel
theorem own_d6_18 : decode prog_43_method_4_code 18 = .ok (.getfield 16, 3) := by decide +kernel
theorem own_d6_21 : decode prog_43_method_4_code 21 = .ok (.aload_n 2, 1) := by decide +kernel
theorem own_d6_22 : decode prog_43_method_4_code 22 = .ok (.getfield 16, 3) := by decide +kernel
theorem own_d6_25 : decode prog_43_method_4_code 25 = .ok (.lcmp, 1) := by decide +kernel
theorem own_d6_26 : decode prog_43_method_4_code 26 = .ok (.ifCond .ne 19, 3) := by decide +kernel
theorem own_d6_29 : decode prog_43_method_4_code 29 = .ok (.aload_n 0, 1) := by decide +kernel
theorem own_d6_30 : decode prog_43_method_4_code 30 = .ok (.getfield 22, 3) := by decide +kernel
theorem own_d6_33 : decode prog_43_method_4_code 33 = .ok (.aload_n 2, 1) := by decide +kernel
theorem own_d6_34 : decode prog_43_method_4_code 34 = .ok (.getfield 22, 3) := by decide +kernel
theorem own_d6_37 : decode prog_43_method_4_code 37 = .ok (.lcmp, 1) := by decide +kernel
theorem own_d6_38 : decode prog_43_method_4_code 38 = .ok (.ifCond .ne 7, 3) := by decide +kernel
theorem own_d6_41 : decode prog_43_method_4_code 41 = .ok (.iconst 1, 1) := by decide +kernel
theorem own_d6_42 : decode prog_43_method_4_code 42 = .ok (.goto 4, 3) := by decide +kernel
theorem own_d6_45 : decode prog_43_method_4_code 45 = .ok (.iconst 0, 1) := by decide +kernel
theorem own_d6_46 : decode prog_43_method_4_code 46 = .ok (.ireturn, 1) := by decide +kernel
def own_Q6s (Z : State) (xa : Addr) (xb : Addr) (us1 : Int64) (ue1 : Int64) (us2 : Int64) (ue2 : Int64) (h0 : Heap) (n0 : Nat) (v : Option Value) (h : Heap) (L : List Loc) : Prop := v = some (.int (own_eq us1 ue1 us2 ue2)) ∧ Fr n0 L ∧ h = h0
theorem own_ef6s (m : MethodId) (xa : Addr) (xb : Addr) : entryFrame m #[(.ref xa), (.ref xb)] 3 = mkF m 0 #[.val (.ref xa), .val (.ref xb), .unset] [] := by first | (simp [entryFrame, mkF, argsToLocals, Value.category]; done) | rfl
set_option maxRecDepth 65536 in
set_option maxHeartbeats 40000000 in
theorem own_rm6s (l : Launch) (Z : State) (a0 : Array Value) (hw : ∀ d ∈ tables_1, d.before a0 Z = true) (ws : List Jvm.Cond) (xa : Addr) (xb : Addr) (us1 : Int64) (ue1 : Int64) (us2 : Int64) (ue2 : Int64) (h0 : Heap) (n0 : Nat) (Z0 : n0 ≤ h0.size) (E_xb : Exa Z h0 xb "com/example/clotho/clotho/model/Segment") (F_start_xa : Fld Z h0 xa "com/example/clotho/clotho/model/Segment" "start" "J" (.long us1)) (F_end_xa : Fld Z h0 xa "com/example/clotho/clotho/model/Segment" "end" "J" (.long ue1)) (F_start_xb : Fld Z h0 xb "com/example/clotho/clotho/model/Segment" "start" "J" (.long us2)) (F_end_xb : Fld Z h0 xb "com/example/clotho/clotho/model/Segment" "end" "J" (.long ue2)) :
    MetFree l (⟨"com/example/clotho/clotho/model/Segment", "equals", "(Ljava/lang/Object;)Z"⟩ : MethodName) (head1 (Jvm.Cond.code (⟨"com/example/clotho/clotho/model/Segment", "equals", "(Ljava/lang/Object;)Z"⟩ : MethodName) prog_43_method_4_code 3 (some .boolean) :: ws) ({ frames := 0, cells := 0, slots := 0, locals := 0 } : Room)) (fun a U => a = #[(.ref xa), (.ref xb)] ∧ Z.Warmed39 U.vm ∧ U.heap = h0) (fun _ _ _ _ _ => True) (fun _ U o U' => ∃ v L, o = .returned v ∧ own_Q6s Z xa xb us1 ue1 us2 ue2 h0 n0 v U'.heap L ∧ FrameEnd U o U' L ({ frames := 0, cells := 0, slots := 0, locals := 0 } : Room).cells ({ frames := 0, cells := 0, slots := 0, locals := 0 } : Room).slots) := by
  refine MetFree.of_bodySF (plainFor_of_name own_pn2) hisR ?_
  intro p e s m args below meth c s₁ Bd hml0 hP hK
  obtain ⟨rfl, hZ, hh⟩ := hP
  have hx := Bd.exec
  have hby := Bd.bytes
  have hml : c.maxLocals = 3 := hml0
  have hown : s.vm.findClass "com/example/clotho/clotho/model/Segment" = some m.cls := findClass_of_methodNamed Bd.named
  have hnm := (name_of_methodNamed Bd.named Bd.method).1
  have X0 : Stand p l e ({ frames := 0, cells := 0, slots := 0, locals := 0 } : Room) s m #[(.ref xa), (.ref xb)] below meth c s₁ [] 0 0 := Stand.of_body Bd
  have e0 : s₁.heap = h0 := by rw [← hh, Bd.state]; rfl
  have N0 := Fr.nil n0
  have pre0 : ∀ t, Steps p.tables e below (s₁.setTop (mkF m 0 #[.val (.ref xa), .val (.ref xb), .unset] [])) t → Steps p.tables e below (s₁.setTop (entryFrame m #[(.ref xa), (.ref xb)] 3)) t := fun t k => castTop (own_ef6s m xa xb) k
  obtain ⟨T1, X1, e1, st1⟩ := instY X0 hx hZ hown (hw _ (List.mem_of_getElem? (i := 32) rfl)) e0 (Ins.self E_xb) (g := (mkF m 1 #[.val (.ref xa), .val (.ref xb), .unset] [(.ref xb)])) rfl rfl (hb hby own_d6_1)
  have hd2 : ¬ ((1 : Int32) = (0 : Int32)) := (by decide)
  obtain ⟨T3, X3, e3, st3⟩ := castY X1 hx hZ hown (hw _ (List.mem_of_getElem? (i := 32) rfl)) e1 (Ins.self E_xb) (g := (mkF m 8 #[.val (.ref xa), .val (.ref xb), .unset] [(.ref xb)])) rfl rfl (hb hby own_d6_8)
  obtain ⟨T4, X4, e4, st4⟩ := getF X3 hx hZ hown (host := "") (Or.inl (hw _ (List.mem_of_getElem? (i := 13) rfl))) Via.refl e3 F_start_xa (g := (mkF m 18 #[.val (.ref xa), .val (.ref xb), .val (.ref xb)] [(.ref xa)])) rfl rfl (hb hby own_d6_18)
  obtain ⟨T5, X5, e5, st5⟩ := getF X4 hx hZ hown (host := "") (Or.inl (hw _ (List.mem_of_getElem? (i := 13) rfl))) Via.refl e4 F_start_xb (g := (mkF m 22 #[.val (.ref xa), .val (.ref xb), .val (.ref xb)] [(.ref xb), (.long us1)])) rfl rfl (hb hby own_d6_22)
  have pre6 : ∀ t, Steps p.tables e below (T5.setTop (mkF m 26 #[.val (.ref xa), .val (.ref xb), .val (.ref xb)] [(.int (lcmpW us1 us2))])) t → Steps p.tables e below (s₁.setTop (entryFrame m #[(.ref xa), (.ref xb)] 3)) t := by
    intro t k
    refine pre0 _ ?_
    show Steps p.tables e below (s₁.setTop (mkF m 0 #[.val (.ref xa), .val (.ref xb), .unset] [])) _
    refine XS.aloadN X0.here hx rfl (hb hby own_d6_0) rfl rfl ?_
    show Steps p.tables e below (s₁.setTop (mkF m 1 #[.val (.ref xa), .val (.ref xb), .unset] [(.ref xb)])) _
    refine st1 _ ?_
    show Steps p.tables e below (T1.setTop (mkF m 4 #[.val (.ref xa), .val (.ref xb), .unset] [(.int (1 : Int32))])) _
    refine XS.ifNo X1.here hx rfl (hb hby own_d6_4) rfl ((if0 _ _).trans (feq hd2).1) ?_
    show Steps p.tables e below (T1.setTop (mkF m 7 #[.val (.ref xa), .val (.ref xb), .unset] [])) _
    refine XS.aloadN X1.here hx rfl (hb hby own_d6_7) rfl rfl ?_
    show Steps p.tables e below (T1.setTop (mkF m 8 #[.val (.ref xa), .val (.ref xb), .unset] [(.ref xb)])) _
    refine st3 _ ?_
    show Steps p.tables e below (T3.setTop (mkF m 11 #[.val (.ref xa), .val (.ref xb), .unset] [(.ref xb)])) _
    refine XS.astoreN X3.here hx rfl (hb hby own_d6_11) rfl rfl (l' := #[.val (.ref xa), .val (.ref xb), .val (.ref xb)]) rfl ?_
    show Steps p.tables e below (T3.setTop (mkF m 12 #[.val (.ref xa), .val (.ref xb), .val (.ref xb)] [])) _
    refine XS.goto X3.here hx rfl (pc0 := 12) (pc' := 17) rfl (hb hby own_d6_12) (by decide) (by decide) ?_
    show Steps p.tables e below (T3.setTop (mkF m 17 #[.val (.ref xa), .val (.ref xb), .val (.ref xb)] [])) _
    refine XS.aloadN X3.here hx rfl (hb hby own_d6_17) rfl rfl ?_
    show Steps p.tables e below (T3.setTop (mkF m 18 #[.val (.ref xa), .val (.ref xb), .val (.ref xb)] [(.ref xa)])) _
    refine st4 _ ?_
    show Steps p.tables e below (T4.setTop (mkF m 21 #[.val (.ref xa), .val (.ref xb), .val (.ref xb)] [(.long us1)])) _
    refine XS.aloadN X4.here hx rfl (hb hby own_d6_21) rfl rfl ?_
    show Steps p.tables e below (T4.setTop (mkF m 22 #[.val (.ref xa), .val (.ref xb), .val (.ref xb)] [(.ref xb), (.long us1)])) _
    refine st5 _ ?_
    show Steps p.tables e below (T5.setTop (mkF m 25 #[.val (.ref xa), .val (.ref xb), .val (.ref xb)] [(.long us2), (.long us1)])) _
    refine XS.lcmp X5.here hx rfl (hb hby own_d6_25) rfl ?_
    exact k
  by_cases hc26 : us1 = us2
  · obtain ⟨T7, X7, e7, st7⟩ := getF X5 hx hZ hown (host := "") (Or.inl (hw _ (List.mem_of_getElem? (i := 15) rfl))) Via.refl e5 F_end_xa (g := (mkF m 30 #[.val (.ref xa), .val (.ref xb), .val (.ref xb)] [(.ref xa)])) rfl rfl (hb hby own_d6_30)
    obtain ⟨T8, X8, e8, st8⟩ := getF X7 hx hZ hown (host := "") (Or.inl (hw _ (List.mem_of_getElem? (i := 15) rfl))) Via.refl e7 F_end_xb (g := (mkF m 34 #[.val (.ref xa), .val (.ref xb), .val (.ref xb)] [(.ref xb), (.long ue1)])) rfl rfl (hb hby own_d6_34)
    have pre9 : ∀ t, Steps p.tables e below (T8.setTop (mkF m 38 #[.val (.ref xa), .val (.ref xb), .val (.ref xb)] [(.int (lcmpW ue1 ue2))])) t → Steps p.tables e below (s₁.setTop (entryFrame m #[(.ref xa), (.ref xb)] 3)) t := by
      intro t k
      refine pre6 _ ?_
      show Steps p.tables e below (T5.setTop (mkF m 26 #[.val (.ref xa), .val (.ref xb), .val (.ref xb)] [(.int (lcmpW us1 us2))])) _
      refine XS.ifNo X5.here hx rfl (hb hby own_d6_26) rfl ((if0 _ _).trans (teq ((lw_eq us1 us2).mpr hc26)).2) ?_
      show Steps p.tables e below (T5.setTop (mkF m 29 #[.val (.ref xa), .val (.ref xb), .val (.ref xb)] [])) _
      refine XS.aloadN X5.here hx rfl (hb hby own_d6_29) rfl rfl ?_
      show Steps p.tables e below (T5.setTop (mkF m 30 #[.val (.ref xa), .val (.ref xb), .val (.ref xb)] [(.ref xa)])) _
      refine st7 _ ?_
      show Steps p.tables e below (T7.setTop (mkF m 33 #[.val (.ref xa), .val (.ref xb), .val (.ref xb)] [(.long ue1)])) _
      refine XS.aloadN X7.here hx rfl (hb hby own_d6_33) rfl rfl ?_
      show Steps p.tables e below (T7.setTop (mkF m 34 #[.val (.ref xa), .val (.ref xb), .val (.ref xb)] [(.ref xb), (.long ue1)])) _
      refine st8 _ ?_
      show Steps p.tables e below (T8.setTop (mkF m 37 #[.val (.ref xa), .val (.ref xb), .val (.ref xb)] [(.long ue2), (.long ue1)])) _
      refine XS.lcmp X8.here hx rfl (hb hby own_d6_37) rfl ?_
      exact k
    by_cases hc38 : ue1 = ue2
    · obtain ⟨fs, hr, hrun, hended, hW, hsame⟩ := X8.leave (v := some (.int (1 : Int32))) (fun h => by rw [Bd.returns] at h; cases h)
      have ev10 : (own_eq us1 ue1 us2 ue2) = (1 : Int32) := by
        simp [own_eq, hc26, hc38]
      refine ⟨_, _, pre9 _ ?_, hrun, hended, _, _, rfl, ?_, ⟨_, rfl⟩, hW, hsame.mono (by decide) (by decide)⟩
      · show Steps p.tables e below (T8.setTop (mkF m 38 #[.val (.ref xa), .val (.ref xb), .val (.ref xb)] [(.int (lcmpW ue1 ue2))])) _
        refine XS.ifNo X8.here hx rfl (hb hby own_d6_38) rfl ((if0 _ _).trans (teq ((lw_eq ue1 ue2).mpr hc38)).2) ?_
        show Steps p.tables e below (T8.setTop (mkF m 41 #[.val (.ref xa), .val (.ref xb), .val (.ref xb)] [])) _
        refine XS.iconst X8.here hx rfl (hb hby own_d6_41) ?_
        show Steps p.tables e below (T8.setTop (mkF m 42 #[.val (.ref xa), .val (.ref xb), .val (.ref xb)] [(.int (1 : Int32))])) _
        refine XS.goto X8.here hx rfl (pc0 := 42) (pc' := 46) rfl (hb hby own_d6_42) (by decide) (by decide) ?_
        show Steps p.tables e below (T8.setTop (mkF m 46 #[.val (.ref xa), .val (.ref xb), .val (.ref xb)] [(.int (1 : Int32))])) _
        exact retN X8 hx (t := .boolean) Bd.returns (by simp) (hb hby own_d6_46) hr
      · show own_Q6s Z xa xb us1 ue1 us2 ue2 h0 n0 _ T8.heap _
        rw [e8]
        exact ⟨(by rw [ev10]), N0, rfl⟩
    · obtain ⟨fs, hr, hrun, hended, hW, hsame⟩ := X8.leave (v := some (.int (0 : Int32))) (fun h => by rw [Bd.returns] at h; cases h)
      have ev11 : (own_eq us1 ue1 us2 ue2) = (0 : Int32) := by
        simp [own_eq, hc26, hc38]
      refine ⟨_, _, pre9 _ ?_, hrun, hended, _, _, rfl, ?_, ⟨_, rfl⟩, hW, hsame.mono (by decide) (by decide)⟩
      · show Steps p.tables e below (T8.setTop (mkF m 38 #[.val (.ref xa), .val (.ref xb), .val (.ref xb)] [(.int (lcmpW ue1 ue2))])) _
        refine XS.ifYes X8.here hx rfl (pc0 := 38) (pc' := 45) rfl (hb hby own_d6_38) rfl ((if0 _ _).trans (feq (fun z => hc38 ((lw_eq ue1 ue2).mp z))).2) (by decide) (by decide) ?_
        show Steps p.tables e below (T8.setTop (mkF m 45 #[.val (.ref xa), .val (.ref xb), .val (.ref xb)] [])) _
        refine XS.iconst X8.here hx rfl (hb hby own_d6_45) ?_
        show Steps p.tables e below (T8.setTop (mkF m 46 #[.val (.ref xa), .val (.ref xb), .val (.ref xb)] [(.int (0 : Int32))])) _
        exact retN X8 hx (t := .boolean) Bd.returns (by simp) (hb hby own_d6_46) hr
      · show own_Q6s Z xa xb us1 ue1 us2 ue2 h0 n0 _ T8.heap _
        rw [e8]
        exact ⟨(by rw [ev11]), N0, rfl⟩
  · obtain ⟨fs, hr, hrun, hended, hW, hsame⟩ := X5.leave (v := some (.int (0 : Int32))) (fun h => by rw [Bd.returns] at h; cases h)
    have ev12 : (own_eq us1 ue1 us2 ue2) = (0 : Int32) := by
      simp [own_eq, hc26]
    refine ⟨_, _, pre6 _ ?_, hrun, hended, _, _, rfl, ?_, ⟨_, rfl⟩, hW, hsame.mono (by decide) (by decide)⟩
    · show Steps p.tables e below (T5.setTop (mkF m 26 #[.val (.ref xa), .val (.ref xb), .val (.ref xb)] [(.int (lcmpW us1 us2))])) _
      refine XS.ifYes X5.here hx rfl (pc0 := 26) (pc' := 45) rfl (hb hby own_d6_26) rfl ((if0 _ _).trans (feq (fun z => hc26 ((lw_eq us1 us2).mp z))).2) (by decide) (by decide) ?_
      show Steps p.tables e below (T5.setTop (mkF m 45 #[.val (.ref xa), .val (.ref xb), .val (.ref xb)] [])) _
      refine XS.iconst X5.here hx rfl (hb hby own_d6_45) ?_
      show Steps p.tables e below (T5.setTop (mkF m 46 #[.val (.ref xa), .val (.ref xb), .val (.ref xb)] [(.int (0 : Int32))])) _
      exact retN X5 hx (t := .boolean) Bd.returns (by simp) (hb hby own_d6_46) hr
    · show own_Q6s Z xa xb us1 ue1 us2 ue2 h0 n0 _ T5.heap _
      rw [e5]
      exact ⟨(by rw [ev12]), N0, rfl⟩
theorem own_d6_15 : decode prog_43_method_4_code 15 = .ok (.iconst 0, 1) := by decide +kernel
theorem own_d6_16 : decode prog_43_method_4_code 16 = .ok (.ireturn, 1) := by decide +kernel
def own_Q6n (Z : State) (xa : Addr) (h0 : Heap) (n0 : Nat) (v : Option Value) (h : Heap) (L : List Loc) : Prop := v = some (.int (0 : Int32)) ∧ Fr n0 L ∧ h = h0
theorem own_ef6n (m : MethodId) (xa : Addr) : entryFrame m #[(.ref xa), .null] 3 = mkF m 0 #[.val (.ref xa), .val .null, .unset] [] := by first | (simp [entryFrame, mkF, argsToLocals, Value.category]; done) | rfl
set_option maxRecDepth 65536 in
set_option maxHeartbeats 40000000 in
theorem own_rm6n (l : Launch) (Z : State) (a0 : Array Value) (hw : ∀ d ∈ tables_1, d.before a0 Z = true) (ws : List Jvm.Cond) (xa : Addr) (h0 : Heap) (n0 : Nat) (Z0 : n0 ≤ h0.size)  :
    MetFree l (⟨"com/example/clotho/clotho/model/Segment", "equals", "(Ljava/lang/Object;)Z"⟩ : MethodName) (head1 (Jvm.Cond.code (⟨"com/example/clotho/clotho/model/Segment", "equals", "(Ljava/lang/Object;)Z"⟩ : MethodName) prog_43_method_4_code 3 (some .boolean) :: ws) ({ frames := 0, cells := 0, slots := 0, locals := 0 } : Room)) (fun a U => a = #[(.ref xa), .null] ∧ Z.Warmed39 U.vm ∧ U.heap = h0) (fun _ _ _ _ _ => True) (fun _ U o U' => ∃ v L, o = .returned v ∧ own_Q6n Z xa h0 n0 v U'.heap L ∧ FrameEnd U o U' L ({ frames := 0, cells := 0, slots := 0, locals := 0 } : Room).cells ({ frames := 0, cells := 0, slots := 0, locals := 0 } : Room).slots) := by
  refine MetFree.of_bodySF (plainFor_of_name own_pn2) hisR ?_
  intro p e s m args below meth c s₁ Bd hml0 hP hK
  obtain ⟨rfl, hZ, hh⟩ := hP
  have hx := Bd.exec
  have hby := Bd.bytes
  have hml : c.maxLocals = 3 := hml0
  have hown : s.vm.findClass "com/example/clotho/clotho/model/Segment" = some m.cls := findClass_of_methodNamed Bd.named
  have hnm := (name_of_methodNamed Bd.named Bd.method).1
  have X0 : Stand p l e ({ frames := 0, cells := 0, slots := 0, locals := 0 } : Room) s m #[(.ref xa), .null] below meth c s₁ [] 0 0 := Stand.of_body Bd
  have e0 : s₁.heap = h0 := by rw [← hh, Bd.state]; rfl
  have N0 := Fr.nil n0
  have pre0 : ∀ t, Steps p.tables e below (s₁.setTop (mkF m 0 #[.val (.ref xa), .val .null, .unset] [])) t → Steps p.tables e below (s₁.setTop (entryFrame m #[(.ref xa), .null] 3)) t := fun t k => castTop (own_ef6n m xa) k
  obtain ⟨fs, hr, hrun, hended, hW, hsame⟩ := X0.leave (v := some (.int (0 : Int32))) (fun h => by rw [Bd.returns] at h; cases h)
  refine ⟨_, _, pre0 _ ?_, hrun, hended, _, _, rfl, ?_, ⟨_, rfl⟩, hW, hsame.mono (by decide) (by decide)⟩
  · show Steps p.tables e below (s₁.setTop (mkF m 0 #[.val (.ref xa), .val .null, .unset] [])) _
    refine XS.aloadN X0.here hx rfl (hb hby own_d6_0) rfl rfl ?_
    show Steps p.tables e below (s₁.setTop (mkF m 1 #[.val (.ref xa), .val .null, .unset] [.null])) _
    refine X0.instanceofNull hx (g := (mkF m 1 #[.val (.ref xa), .val .null, .unset] [.null])) rfl rfl (hb hby own_d6_1) _ ?_
    show Steps p.tables e below (s₁.setTop (mkF m 4 #[.val (.ref xa), .val .null, .unset] [(.int (0 : Int32))])) _
    refine XS.ifYes X0.here hx rfl (pc0 := 4) (pc' := 15) rfl (hb hby own_d6_4) rfl ((if0 _ _).trans (teq rfl).1) (by decide) (by decide) ?_
    show Steps p.tables e below (s₁.setTop (mkF m 15 #[.val (.ref xa), .val .null, .unset] [])) _
    refine XS.iconst X0.here hx rfl (hb hby own_d6_15) ?_
    show Steps p.tables e below (s₁.setTop (mkF m 16 #[.val (.ref xa), .val .null, .unset] [(.int (0 : Int32))])) _
    exact retN X0 hx (t := .boolean) Bd.returns (by simp) (hb hby own_d6_16) hr
  · show own_Q6n Z xa h0 n0 _ s₁.heap _
    rw [e0]
    exact ⟨rfl, N0, rfl⟩
def own_Q6l (Z : State) (xa : Addr) (xb : Addr) (h0 : Heap) (n0 : Nat) (v : Option Value) (h : Heap) (L : List Loc) : Prop := v = some (.int (0 : Int32)) ∧ Fr n0 L ∧ h = h0
theorem own_ef6l (m : MethodId) (xa : Addr) (xb : Addr) : entryFrame m #[(.ref xa), (.ref xb)] 3 = mkF m 0 #[.val (.ref xa), .val (.ref xb), .unset] [] := by first | (simp [entryFrame, mkF, argsToLocals, Value.category]; done) | rfl
set_option maxRecDepth 65536 in
set_option maxHeartbeats 40000000 in
theorem own_rm6l (l : Launch) (Z : State) (a0 : Array Value) (hw : ∀ d ∈ tables_1, d.before a0 Z = true) (ws : List Jvm.Cond) (xa : Addr) (xb : Addr) (h0 : Heap) (n0 : Nat) (Z0 : n0 ≤ h0.size) (E_xb : Exa Z h0 xb "java/lang/Long") :
    MetFree l (⟨"com/example/clotho/clotho/model/Segment", "equals", "(Ljava/lang/Object;)Z"⟩ : MethodName) (head1 (Jvm.Cond.code (⟨"com/example/clotho/clotho/model/Segment", "equals", "(Ljava/lang/Object;)Z"⟩ : MethodName) prog_43_method_4_code 3 (some .boolean) :: ws) ({ frames := 0, cells := 0, slots := 0, locals := 0 } : Room)) (fun a U => a = #[(.ref xa), (.ref xb)] ∧ Z.Warmed39 U.vm ∧ U.heap = h0) (fun _ _ _ _ _ => True) (fun _ U o U' => ∃ v L, o = .returned v ∧ own_Q6l Z xa xb h0 n0 v U'.heap L ∧ FrameEnd U o U' L ({ frames := 0, cells := 0, slots := 0, locals := 0 } : Room).cells ({ frames := 0, cells := 0, slots := 0, locals := 0 } : Room).slots) := by
  refine MetFree.of_bodySF (plainFor_of_name own_pn2) hisR ?_
  intro p e s m args below meth c s₁ Bd hml0 hP hK
  obtain ⟨rfl, hZ, hh⟩ := hP
  have hx := Bd.exec
  have hby := Bd.bytes
  have hml : c.maxLocals = 3 := hml0
  have hown : s.vm.findClass "com/example/clotho/clotho/model/Segment" = some m.cls := findClass_of_methodNamed Bd.named
  have hnm := (name_of_methodNamed Bd.named Bd.method).1
  have X0 : Stand p l e ({ frames := 0, cells := 0, slots := 0, locals := 0 } : Room) s m #[(.ref xa), (.ref xb)] below meth c s₁ [] 0 0 := Stand.of_body Bd
  have e0 : s₁.heap = h0 := by rw [← hh, Bd.state]; rfl
  have N0 := Fr.nil n0
  have pre0 : ∀ t, Steps p.tables e below (s₁.setTop (mkF m 0 #[.val (.ref xa), .val (.ref xb), .unset] [])) t → Steps p.tables e below (s₁.setTop (entryFrame m #[(.ref xa), (.ref xb)] 3)) t := fun t k => castTop (own_ef6l m xa xb) k
  obtain ⟨T1, X1, e1, st1⟩ := instNo X0 hx hZ hown (hw _ (List.mem_of_getElem? (i := 32) rfl)) e0 E_xb (own_no (hw _ (List.mem_of_getElem? (i := 42) rfl)) (hw _ (List.mem_of_getElem? (i := 5) rfl)) (NS.step (hw _ (List.mem_of_getElem? (i := 42) rfl)) (NS.step (hw _ (List.mem_of_getElem? (i := 43) rfl)) (own_root (hw _ (List.mem_of_getElem? (i := 44) rfl)) (hw _ (List.mem_of_getElem? (i := 5) rfl)) (by decide)) (by decide)) (by decide)) (by decide)) (g := (mkF m 1 #[.val (.ref xa), .val (.ref xb), .unset] [(.ref xb)])) rfl rfl (hb hby own_d6_1)
  obtain ⟨fs, hr, hrun, hended, hW, hsame⟩ := X1.leave (v := some (.int (0 : Int32))) (fun h => by rw [Bd.returns] at h; cases h)
  refine ⟨_, _, pre0 _ ?_, hrun, hended, _, _, rfl, ?_, ⟨_, rfl⟩, hW, hsame.mono (by decide) (by decide)⟩
  · show Steps p.tables e below (s₁.setTop (mkF m 0 #[.val (.ref xa), .val (.ref xb), .unset] [])) _
    refine XS.aloadN X0.here hx rfl (hb hby own_d6_0) rfl rfl ?_
    show Steps p.tables e below (s₁.setTop (mkF m 1 #[.val (.ref xa), .val (.ref xb), .unset] [(.ref xb)])) _
    refine st1 _ ?_
    show Steps p.tables e below (T1.setTop (mkF m 4 #[.val (.ref xa), .val (.ref xb), .unset] [(.int (0 : Int32))])) _
    refine XS.ifYes X1.here hx rfl (pc0 := 4) (pc' := 15) rfl (hb hby own_d6_4) rfl ((if0 _ _).trans (teq rfl).1) (by decide) (by decide) ?_
    show Steps p.tables e below (T1.setTop (mkF m 15 #[.val (.ref xa), .val (.ref xb), .unset] [])) _
    refine XS.iconst X1.here hx rfl (hb hby own_d6_15) ?_
    show Steps p.tables e below (T1.setTop (mkF m 16 #[.val (.ref xa), .val (.ref xb), .unset] [(.int (0 : Int32))])) _
    exact retN X1 hx (t := .boolean) Bd.returns (by simp) (hb hby own_d6_16) hr
  · show own_Q6l Z xa xb h0 n0 _ T1.heap _
    rw [e1]
    exact ⟨rfl, N0, rfl⟩
theorem own_pd3 : parseMethodDescriptor "(JJ)Lcom/example/clotho/clotho/model/Segment;" = some ⟨[.long, .long], some (.object "com/example/clotho/clotho/model/Segment")⟩ := by decide +kernel
theorem own_pd4 : parseMethodDescriptor "()J" = some ⟨[], some .long⟩ := by decide +kernel
theorem own_pd5 : parseMethodDescriptor "(Ljava/lang/Object;)Z" = some ⟨[(.object "java/lang/Object")], some .boolean⟩ := by decide +kernel
theorem own_pd6 : parseMethodDescriptor "(J)Ljava/lang/Long;" = some ⟨[.long], some (.object "java/lang/Long")⟩ := by decide +kernel
def own_Q0 (Z : State) (y1 : Int64) (y2 : Int64) (y3 : Int64) (y4 : Int64) (y5 : Int32) (xc : Addr) (xcl : Cell) (h0 : Heap) (n0 : Nat) (v : Option Value) (h : Heap) (L : List Loc) : Prop := v = some (.int (1 : Int32)) ∧ Fr n0 L
theorem own_ef0 (m : MethodId) (y1 : Int64) (y2 : Int64) (y3 : Int64) (y4 : Int64) (y5 : Int32) : entryFrame m #[(.long y1), (.long y2), (.long y3), (.long y4), (.int y5)] maxLocals = mkF m 0 #[.val (.long y1), .second, .val (.long y2), .second, .val (.long y3), .second, .val (.long y4), .second, .val (.int y5), .unset, .unset, .unset, .unset, .unset, .unset, .unset, .unset, .unset, .unset, .unset, .unset, .unset, .unset, .unset, .unset, .unset, .unset, .unset, .unset, .unset, .unset] [] := by first | (simp [entryFrame, mkF, argsToLocals, Value.category, maxLocals]; done) | rfl
set_option maxRecDepth 65536 in
set_option maxHeartbeats 40000000 in
theorem own_rm0 (l : Launch) (Z : State) (a0 : Array Value) (hw : ∀ d ∈ tables_1, d.before a0 Z = true) (ws : List Jvm.Cond) (y1 : Int64) (y2 : Int64) (y3 : Int64) (y4 : Int64) (y5 : Int32) (xc : Addr) (xcl : Cell) (h0 : Heap) (n0 : Nat) (Z0 : n0 ≤ h0.size) (S_cache : Sta Z h0 "java/lang/Long$LongCache" "cache" "[Ljava/lang/Long;" (.ref xc)) (R_xc : Arr Z h0 xc xcl (.object "java/lang/Long")) (hsz : xcl.slots.size = (256 : Int32).toNatClampNeg) (hca : ∀ j : Int32, ¬ (j < 0 ∨ xcl.slots.size ≤ j.toNatClampNeg) → ∃ o : Addr, xcl.slots[j.toNatClampNeg]? = some (.ref o) ∧ Exa Z h0 o "java/lang/Long") :
    MetFree l x (head1 (Jvm.Cond.code x code maxLocals ret :: ws) room_1) (fun a U => a = #[(.long y1), (.long y2), (.long y3), (.long y4), (.int y5)] ∧ Z.Warmed39 U.vm ∧ U.heap = h0) (fun _ _ _ _ _ => True) (fun _ U o U' => ∃ v L, o = .returned v ∧ own_Q0 Z y1 y2 y3 y4 y5 xc xcl h0 n0 v U'.heap L ∧ FrameEnd U o U' L room_1.cells room_1.slots) := by
  refine MetFree.of_bodySF (plainFor_of_name own_pn3) hisR ?_
  intro p e s m args below meth c s₁ Bd hml0 hP hK
  obtain ⟨rfl, hZ, hh⟩ := hP
  have hx := Bd.exec
  have hby := Bd.bytes
  have hml : c.maxLocals = 31 := hml0
  have hown : s.vm.findClass "com/example/clotho/clotho/model/SegmentEqualsPinLaw" = some m.cls := findClass_of_methodNamed Bd.named
  have hnm := (name_of_methodNamed Bd.named Bd.method).1
  have X0 : Stand p l e room_1 s m #[(.long y1), (.long y2), (.long y3), (.long y4), (.int y5)] below meth c s₁ [] 0 0 := Stand.of_body Bd
  have e0 : s₁.heap = h0 := by rw [← hh, Bd.state]; rfl
  have N0 := Fr.nil n0
  have pre0 : ∀ t, Steps p.tables e below (s₁.setTop (mkF m 0 #[.val (.long y1), .second, .val (.long y2), .second, .val (.long y3), .second, .val (.long y4), .second, .val (.int y5), .unset, .unset, .unset, .unset, .unset, .unset, .unset, .unset, .unset, .unset, .unset, .unset, .unset, .unset, .unset, .unset, .unset, .unset, .unset, .unset, .unset, .unset] [])) t → Steps p.tables e below (s₁.setTop (entryFrame m #[(.long y1), (.long y2), (.long y3), (.long y4), (.int y5)] maxLocals)) t := fun t k => castTop (own_ef0 m y1 y2 y3 y4 y5) k
  have K0 : Keep h0 h0 [] := Keep.refl _ _
  obtain ⟨_, _, ⟨T1, L1, k1, n1⟩, -, X1, ⟨Lc1, hQ1, l1, y1, z1⟩, st1⟩ := Jvm.LawKit.callS X0 hx (y := (⟨"com/example/clotho/clotho/model/SegmentEqualsPinLaw", "make", "(JJ)Lcom/example/clotho/clotho/model/Segment;"⟩ : MethodName)) hown (mvT hZ (hw _ (List.mem_of_getElem? (i := 0) rfl))) (mvT hZ (hw _ (List.mem_of_getElem? (i := 1) rfl))) (mvT hZ (hw _ (List.mem_of_getElem? (i := 2) rfl))) (mvT hZ (hw _ (List.mem_of_getElem? (i := 3) rfl))) (by decide) (backOf (W := 0) (own_rm1 l Z a0 hw [] y1 y2 h0 n0 Z0 ) hZ (hw _ (List.mem_of_getElem? (i := 3) rfl)) (hw _ (List.mem_of_getElem? (i := 2) rfl)) (by decide) (by decide)) (g := (mkF m 2 #[.val (.long y1), .second, .val (.long y2), .second, .val (.long y3), .second, .val (.long y4), .second, .val (.int y5), .unset, .unset, .unset, .unset, .unset, .unset, .unset, .unset, .unset, .unset, .unset, .unset, .unset, .unset, .unset, .unset, .unset, .unset, .unset, .unset, .unset, .unset] [(.long y2), (.long y1)])) rfl (by rw [hml]; rfl) (argsL := [(.long y1), (.long y2)]) (rest := []) (lenOf own_pd3 rfl) rfl (by show 2 * 0 + _ ≤ _; exact Nat.le_of_eq rfl) (hb hby at_2) (fun _ _ => ⟨rfl, e0, (by decide : 0 + 1 ≤ _), (by decide : 0 + 2 ≤ _)⟩)
  dsimp only [Pt.U, Pt.locs, Pt.cells, Pt.slots] at X1 l1 y1 z1 st1 hQ1
  subst l1 y1 z1
  obtain ⟨b1xn, rfl, N1q, K1q, sz0_b1xn, lt_b1xn, F2, F3, F4⟩ := hQ1
  have K1 := K1q
  have ne_xc_b1xn : xc ≠ b1xn := Nat.ne_of_lt (Nat.lt_of_lt_of_le R_xc.lt sz0_b1xn)
  have g_b1xn : n0 ≤ b1xn := Nat.le_trans Z0 sz0_b1xn
  have sz_b1xn : h0.size ≤ b1xn := Nat.le_trans K0.1 sz0_b1xn
  have KK1 : Keep h0 T1.heap [] := K0.trans K1 all0
  have F5 : Sta Z T1.heap "java/lang/Long$LongCache" "cache" "[Ljava/lang/Long;" (.ref xc) := S_cache.ext (own_ext KK1)
  have F6 : Arr Z T1.heap xc xcl (.object "java/lang/Long") := R_xc.ext (own_ext KK1)
  have Z1 : n0 ≤ T1.heap.size := Nat.le_trans Z0 K1.1
  have N1 := Fr.app N0 N1q
  obtain ⟨cq7, kq7, q7a, q7b, q7c⟩ := isOf hZ rfl F2
  obtain ⟨_, _, ⟨T7, L7, k7, n7⟩, -, X7, ⟨Lc7, hQ7, l7, y7, z7⟩, st7⟩ := X1.virtualBack hx (y := (⟨"com/example/clotho/clotho/model/Segment", "getStart", "()J"⟩ : MethodName)) (z := (⟨"com/example/clotho/clotho/model/Segment", "getStart", "()J"⟩ : MethodName)) hown (mvT hZ (hw _ (List.mem_of_getElem? (i := 17) rfl))) (mvT hZ (hw _ (List.mem_of_getElem? (i := 18) rfl))) (notFace_of_selects (args := #[]) (mvT hZ (hw _ (List.mem_of_getElem? (i := 20) rfl)))) (mvT hZ (hw _ (List.mem_of_getElem? (i := 20) rfl))) (mvT hZ (hw _ (List.mem_of_getElem? (i := 19) rfl))) (by decide) (backOf (W := 0) (own_rm4 l Z a0 hw [] b1xn (own_ms y1 y2) T1.heap n0 Z1 F3) hZ (hw _ (List.mem_of_getElem? (i := 21) rfl)) (hw _ (List.mem_of_getElem? (i := 6) rfl)) (by decide) (by decide)) q7a q7c (g := (mkF m 9 #[.val (.long y1), .second, .val (.long y2), .second, .val (.long y3), .second, .val (.long y4), .second, .val (.int y5), .val (.ref b1xn), .unset, .unset, .unset, .unset, .unset, .unset, .unset, .unset, .unset, .unset, .unset, .unset, .unset, .unset, .unset, .unset, .unset, .unset, .unset, .unset, .unset] [(.ref b1xn)])) rfl (by rw [hml]; rfl) (Steps.refl _) (argsL := []) (rest := []) (lenOf own_pd4 rfl) rfl (by show 2 * 0 + _ ≤ _; exact Nat.le_of_eq rfl) (hb hby at_9) (fun _ _ => ⟨rfl, rfl, (by decide : 1 + 0 ≤ _), (by decide : 2 + 0 ≤ _)⟩)
  dsimp only [Pt.U, Pt.locs, Pt.cells, Pt.slots] at X7 l7 y7 z7 st7 hQ7
  subst l7 y7 z7
  obtain ⟨rfl, N7q, eh7⟩ := hQ7
  have N7 := Fr.app N1 N7q
  obtain ⟨v12, hv12⟩ : ∃ w : Int64, w = (own_ms y1 y2) := ⟨_, rfl⟩
  have pre8 : ∀ t, Steps p.tables e below (T7.setTop (mkF m 14 #[.val (.long y1), .second, .val (.long y2), .second, .val (.long y3), .second, .val (.long y4), .second, .val (.int y5), .val (.ref b1xn), .val (.long v12), .second, .unset, .unset, .unset, .unset, .unset, .unset, .unset, .unset, .unset, .unset, .unset, .unset, .unset, .unset, .unset, .unset, .unset, .unset, .unset] [])) t → Steps p.tables e below (s₁.setTop (entryFrame m #[(.long y1), (.long y2), (.long y3), (.long y4), (.int y5)] maxLocals)) t := by
    intro t k
    rw [hv12] at k
    refine pre0 _ ?_
    show Steps p.tables e below (s₁.setTop (mkF m 0 #[.val (.long y1), .second, .val (.long y2), .second, .val (.long y3), .second, .val (.long y4), .second, .val (.int y5), .unset, .unset, .unset, .unset, .unset, .unset, .unset, .unset, .unset, .unset, .unset, .unset, .unset, .unset, .unset, .unset, .unset, .unset, .unset, .unset, .unset, .unset] [])) _
    refine XS.lloadN X0.here hx rfl (hb hby at_0) rfl ?_
    show Steps p.tables e below (s₁.setTop (mkF m 1 #[.val (.long y1), .second, .val (.long y2), .second, .val (.long y3), .second, .val (.long y4), .second, .val (.int y5), .unset, .unset, .unset, .unset, .unset, .unset, .unset, .unset, .unset, .unset, .unset, .unset, .unset, .unset, .unset, .unset, .unset, .unset, .unset, .unset, .unset, .unset] [(.long y1)])) _
    refine XS.lloadN X0.here hx rfl (hb hby at_1) rfl ?_
    show Steps p.tables e below (s₁.setTop (mkF m 2 #[.val (.long y1), .second, .val (.long y2), .second, .val (.long y3), .second, .val (.long y4), .second, .val (.int y5), .unset, .unset, .unset, .unset, .unset, .unset, .unset, .unset, .unset, .unset, .unset, .unset, .unset, .unset, .unset, .unset, .unset, .unset, .unset, .unset, .unset, .unset] [(.long y2), (.long y1)])) _
    refine st1 _ ?_
    show Steps p.tables e below (T1.setTop (mkF m 5 #[.val (.long y1), .second, .val (.long y2), .second, .val (.long y3), .second, .val (.long y4), .second, .val (.int y5), .unset, .unset, .unset, .unset, .unset, .unset, .unset, .unset, .unset, .unset, .unset, .unset, .unset, .unset, .unset, .unset, .unset, .unset, .unset, .unset, .unset, .unset] [(.ref b1xn)])) _
    refine XS.astore X1.here hx rfl (hb hby at_5) rfl rfl (l' := #[.val (.long y1), .second, .val (.long y2), .second, .val (.long y3), .second, .val (.long y4), .second, .val (.int y5), .val (.ref b1xn), .unset, .unset, .unset, .unset, .unset, .unset, .unset, .unset, .unset, .unset, .unset, .unset, .unset, .unset, .unset, .unset, .unset, .unset, .unset, .unset, .unset]) rfl ?_
    show Steps p.tables e below (T1.setTop (mkF m 7 #[.val (.long y1), .second, .val (.long y2), .second, .val (.long y3), .second, .val (.long y4), .second, .val (.int y5), .val (.ref b1xn), .unset, .unset, .unset, .unset, .unset, .unset, .unset, .unset, .unset, .unset, .unset, .unset, .unset, .unset, .unset, .unset, .unset, .unset, .unset, .unset, .unset] [])) _
    refine XS.aload X1.here hx rfl (hb hby at_7) rfl rfl ?_
    show Steps p.tables e below (T1.setTop (mkF m 9 #[.val (.long y1), .second, .val (.long y2), .second, .val (.long y3), .second, .val (.long y4), .second, .val (.int y5), .val (.ref b1xn), .unset, .unset, .unset, .unset, .unset, .unset, .unset, .unset, .unset, .unset, .unset, .unset, .unset, .unset, .unset, .unset, .unset, .unset, .unset, .unset, .unset] [(.ref b1xn)])) _
    refine st7.trans ?_
    show Steps p.tables e below (T7.setTop (mkF m 12 #[.val (.long y1), .second, .val (.long y2), .second, .val (.long y3), .second, .val (.long y4), .second, .val (.int y5), .val (.ref b1xn), .unset, .unset, .unset, .unset, .unset, .unset, .unset, .unset, .unset, .unset, .unset, .unset, .unset, .unset, .unset, .unset, .unset, .unset, .unset, .unset, .unset] [(.long (own_ms y1 y2))])) _
    refine XS.lstore X7.here hx rfl (hb hby at_12) rfl (l' := #[.val (.long y1), .second, .val (.long y2), .second, .val (.long y3), .second, .val (.long y4), .second, .val (.int y5), .val (.ref b1xn), .val (.long (own_ms y1 y2)), .second, .unset, .unset, .unset, .unset, .unset, .unset, .unset, .unset, .unset, .unset, .unset, .unset, .unset, .unset, .unset, .unset, .unset, .unset, .unset]) rfl ?_
    exact k
  obtain ⟨cq9, kq9, q9a, q9b, q9c⟩ := isOf hZ eh7 F2
  obtain ⟨_, _, ⟨T9, L9, k9, n9⟩, -, X9, ⟨Lc9, hQ9, l9, y9, z9⟩, st9⟩ := X7.virtualBack hx (y := (⟨"com/example/clotho/clotho/model/Segment", "getEnd", "()J"⟩ : MethodName)) (z := (⟨"com/example/clotho/clotho/model/Segment", "getEnd", "()J"⟩ : MethodName)) hown (mvT hZ (hw _ (List.mem_of_getElem? (i := 22) rfl))) (mvT hZ (hw _ (List.mem_of_getElem? (i := 23) rfl))) (notFace_of_selects (args := #[]) (mvT hZ (hw _ (List.mem_of_getElem? (i := 25) rfl)))) (mvT hZ (hw _ (List.mem_of_getElem? (i := 25) rfl))) (mvT hZ (hw _ (List.mem_of_getElem? (i := 24) rfl))) (by decide) (backOf (W := 0) (own_rm5 l Z a0 hw [] b1xn (own_me y1 y2) T1.heap n0 Z1 F4) hZ (hw _ (List.mem_of_getElem? (i := 26) rfl)) (hw _ (List.mem_of_getElem? (i := 6) rfl)) (by decide) (by decide)) q9a q9c (g := (mkF m 16 #[.val (.long y1), .second, .val (.long y2), .second, .val (.long y3), .second, .val (.long y4), .second, .val (.int y5), .val (.ref b1xn), .val (.long v12), .second, .unset, .unset, .unset, .unset, .unset, .unset, .unset, .unset, .unset, .unset, .unset, .unset, .unset, .unset, .unset, .unset, .unset, .unset, .unset] [(.ref b1xn)])) rfl (by rw [hml]; rfl) (Steps.refl _) (argsL := []) (rest := []) (lenOf own_pd4 rfl) rfl (by show 2 * 0 + _ ≤ _; exact Nat.le_of_eq rfl) (hb hby at_16) (fun _ _ => ⟨rfl, eh7, (by decide : 1 + 0 ≤ _), (by decide : 2 + 0 ≤ _)⟩)
  dsimp only [Pt.U, Pt.locs, Pt.cells, Pt.slots] at X9 l9 y9 z9 st9 hQ9
  subst l9 y9 z9
  obtain ⟨rfl, N9q, eh9⟩ := hQ9
  have N9 := Fr.app N7 N9q
  obtain ⟨v19, hv19⟩ : ∃ w : Int64, w = (own_me y1 y2) := ⟨_, rfl⟩
  have pre10 : ∀ t, Steps p.tables e below (T9.setTop (mkF m 21 #[.val (.long y1), .second, .val (.long y2), .second, .val (.long y3), .second, .val (.long y4), .second, .val (.int y5), .val (.ref b1xn), .val (.long v12), .second, .val (.long v19), .second, .unset, .unset, .unset, .unset, .unset, .unset, .unset, .unset, .unset, .unset, .unset, .unset, .unset, .unset, .unset, .unset, .unset] [])) t → Steps p.tables e below (s₁.setTop (entryFrame m #[(.long y1), (.long y2), (.long y3), (.long y4), (.int y5)] maxLocals)) t := by
    intro t k
    rw [hv19] at k
    refine pre8 _ ?_
    show Steps p.tables e below (T7.setTop (mkF m 14 #[.val (.long y1), .second, .val (.long y2), .second, .val (.long y3), .second, .val (.long y4), .second, .val (.int y5), .val (.ref b1xn), .val (.long v12), .second, .unset, .unset, .unset, .unset, .unset, .unset, .unset, .unset, .unset, .unset, .unset, .unset, .unset, .unset, .unset, .unset, .unset, .unset, .unset] [])) _
    refine XS.aload X7.here hx rfl (hb hby at_14) rfl rfl ?_
    show Steps p.tables e below (T7.setTop (mkF m 16 #[.val (.long y1), .second, .val (.long y2), .second, .val (.long y3), .second, .val (.long y4), .second, .val (.int y5), .val (.ref b1xn), .val (.long v12), .second, .unset, .unset, .unset, .unset, .unset, .unset, .unset, .unset, .unset, .unset, .unset, .unset, .unset, .unset, .unset, .unset, .unset, .unset, .unset] [(.ref b1xn)])) _
    refine st9.trans ?_
    show Steps p.tables e below (T9.setTop (mkF m 19 #[.val (.long y1), .second, .val (.long y2), .second, .val (.long y3), .second, .val (.long y4), .second, .val (.int y5), .val (.ref b1xn), .val (.long v12), .second, .unset, .unset, .unset, .unset, .unset, .unset, .unset, .unset, .unset, .unset, .unset, .unset, .unset, .unset, .unset, .unset, .unset, .unset, .unset] [(.long (own_me y1 y2))])) _
    refine XS.lstore X9.here hx rfl (hb hby at_19) rfl (l' := #[.val (.long y1), .second, .val (.long y2), .second, .val (.long y3), .second, .val (.long y4), .second, .val (.int y5), .val (.ref b1xn), .val (.long v12), .second, .val (.long (own_me y1 y2)), .second, .unset, .unset, .unset, .unset, .unset, .unset, .unset, .unset, .unset, .unset, .unset, .unset, .unset, .unset, .unset, .unset, .unset]) rfl ?_
    exact k
  have pre11 : ∀ t, Steps p.tables e below (T9.setTop (mkF m 25 #[.val (.long y1), .second, .val (.long y2), .second, .val (.long y3), .second, .val (.long y4), .second, .val (.int y5), .val (.ref b1xn), .val (.long v12), .second, .val (.long v19), .second, .unset, .unset, .unset, .unset, .unset, .unset, .unset, .unset, .unset, .unset, .unset, .unset, .unset, .unset, .unset, .unset, .unset] [(.int (y5 &&& (1 : Int32)))])) t → Steps p.tables e below (s₁.setTop (entryFrame m #[(.long y1), (.long y2), (.long y3), (.long y4), (.int y5)] maxLocals)) t := by
    intro t k
    refine pre10 _ ?_
    show Steps p.tables e below (T9.setTop (mkF m 21 #[.val (.long y1), .second, .val (.long y2), .second, .val (.long y3), .second, .val (.long y4), .second, .val (.int y5), .val (.ref b1xn), .val (.long v12), .second, .val (.long v19), .second, .unset, .unset, .unset, .unset, .unset, .unset, .unset, .unset, .unset, .unset, .unset, .unset, .unset, .unset, .unset, .unset, .unset] [])) _
    refine XS.iload X9.here hx rfl (hb hby at_21) rfl ?_
    show Steps p.tables e below (T9.setTop (mkF m 23 #[.val (.long y1), .second, .val (.long y2), .second, .val (.long y3), .second, .val (.long y4), .second, .val (.int y5), .val (.ref b1xn), .val (.long v12), .second, .val (.long v19), .second, .unset, .unset, .unset, .unset, .unset, .unset, .unset, .unset, .unset, .unset, .unset, .unset, .unset, .unset, .unset, .unset, .unset] [(.int y5)])) _
    refine XS.iconst X9.here hx rfl (hb hby at_23) ?_
    show Steps p.tables e below (T9.setTop (mkF m 24 #[.val (.long y1), .second, .val (.long y2), .second, .val (.long y3), .second, .val (.long y4), .second, .val (.int y5), .val (.ref b1xn), .val (.long v12), .second, .val (.long v19), .second, .unset, .unset, .unset, .unset, .unset, .unset, .unset, .unset, .unset, .unset, .unset, .unset, .unset, .unset, .unset, .unset, .unset] [(.int (1 : Int32)), (.int y5)])) _
    refine XS.iand X9.here hx rfl (hb hby at_24) rfl ?_
    exact k
  obtain ⟨xcs, hxcs⟩ : ∃ w : Int64, w = (if (y5 &&& (1 : Int32)) = (0 : Int32) then y3 else v12) := ⟨_, rfl⟩
  have pre12 : ∀ t, Steps p.tables e below (T9.setTop (mkF m 35 #[.val (.long y1), .second, .val (.long y2), .second, .val (.long y3), .second, .val (.long y4), .second, .val (.int y5), .val (.ref b1xn), .val (.long v12), .second, .val (.long v19), .second, .unset, .unset, .unset, .unset, .unset, .unset, .unset, .unset, .unset, .unset, .unset, .unset, .unset, .unset, .unset, .unset, .unset] [(.long xcs)])) t → Steps p.tables e below (s₁.setTop (entryFrame m #[(.long y1), (.long y2), (.long y3), (.long y4), (.int y5)] maxLocals)) t := by
    intro t k
    refine pre11 _ ?_
    by_cases hm25 : (y5 &&& (1 : Int32)) = (0 : Int32)
    · have hq := hxcs
      rw [if_pos hm25] at hq
      rw [hq] at k
      show Steps p.tables e below (T9.setTop (mkF m 25 #[.val (.long y1), .second, .val (.long y2), .second, .val (.long y3), .second, .val (.long y4), .second, .val (.int y5), .val (.ref b1xn), .val (.long v12), .second, .val (.long v19), .second, .unset, .unset, .unset, .unset, .unset, .unset, .unset, .unset, .unset, .unset, .unset, .unset, .unset, .unset, .unset, .unset, .unset] [(.int (y5 &&& (1 : Int32)))])) _
      refine XS.ifYes X9.here hx rfl (pc0 := 25) (pc' := 33) rfl (hb hby at_25) rfl ((if0 _ _).trans (teq hm25).1) (by decide) (by decide) ?_
      show Steps p.tables e below (T9.setTop (mkF m 33 #[.val (.long y1), .second, .val (.long y2), .second, .val (.long y3), .second, .val (.long y4), .second, .val (.int y5), .val (.ref b1xn), .val (.long v12), .second, .val (.long v19), .second, .unset, .unset, .unset, .unset, .unset, .unset, .unset, .unset, .unset, .unset, .unset, .unset, .unset, .unset, .unset, .unset, .unset] [])) _
      refine XS.lload X9.here hx rfl (hb hby at_33) rfl ?_
      exact k
    · have hq := hxcs
      rw [if_neg hm25] at hq
      rw [hq] at k
      show Steps p.tables e below (T9.setTop (mkF m 25 #[.val (.long y1), .second, .val (.long y2), .second, .val (.long y3), .second, .val (.long y4), .second, .val (.int y5), .val (.ref b1xn), .val (.long v12), .second, .val (.long v19), .second, .unset, .unset, .unset, .unset, .unset, .unset, .unset, .unset, .unset, .unset, .unset, .unset, .unset, .unset, .unset, .unset, .unset] [(.int (y5 &&& (1 : Int32)))])) _
      refine XS.ifNo X9.here hx rfl (hb hby at_25) rfl ((if0 _ _).trans (feq hm25).1) ?_
      show Steps p.tables e below (T9.setTop (mkF m 28 #[.val (.long y1), .second, .val (.long y2), .second, .val (.long y3), .second, .val (.long y4), .second, .val (.int y5), .val (.ref b1xn), .val (.long v12), .second, .val (.long v19), .second, .unset, .unset, .unset, .unset, .unset, .unset, .unset, .unset, .unset, .unset, .unset, .unset, .unset, .unset, .unset, .unset, .unset] [])) _
      refine XS.lload X9.here hx rfl (hb hby at_28) rfl ?_
      show Steps p.tables e below (T9.setTop (mkF m 30 #[.val (.long y1), .second, .val (.long y2), .second, .val (.long y3), .second, .val (.long y4), .second, .val (.int y5), .val (.ref b1xn), .val (.long v12), .second, .val (.long v19), .second, .unset, .unset, .unset, .unset, .unset, .unset, .unset, .unset, .unset, .unset, .unset, .unset, .unset, .unset, .unset, .unset, .unset] [(.long v12)])) _
      refine XS.goto X9.here hx rfl (pc0 := 30) (pc' := 35) rfl (hb hby at_30) (by decide) (by decide) ?_
      exact k
  have pre13 : ∀ t, Steps p.tables e below (T9.setTop (mkF m 41 #[.val (.long y1), .second, .val (.long y2), .second, .val (.long y3), .second, .val (.long y4), .second, .val (.int y5), .val (.ref b1xn), .val (.long v12), .second, .val (.long v19), .second, .val (.long xcs), .second, .unset, .unset, .unset, .unset, .unset, .unset, .unset, .unset, .unset, .unset, .unset, .unset, .unset, .unset, .unset] [(.int (y5 &&& (2 : Int32)))])) t → Steps p.tables e below (s₁.setTop (entryFrame m #[(.long y1), (.long y2), (.long y3), (.long y4), (.int y5)] maxLocals)) t := by
    intro t k
    refine pre12 _ ?_
    show Steps p.tables e below (T9.setTop (mkF m 35 #[.val (.long y1), .second, .val (.long y2), .second, .val (.long y3), .second, .val (.long y4), .second, .val (.int y5), .val (.ref b1xn), .val (.long v12), .second, .val (.long v19), .second, .unset, .unset, .unset, .unset, .unset, .unset, .unset, .unset, .unset, .unset, .unset, .unset, .unset, .unset, .unset, .unset, .unset] [(.long xcs)])) _
    refine XS.lstore X9.here hx rfl (hb hby at_35) rfl (l' := #[.val (.long y1), .second, .val (.long y2), .second, .val (.long y3), .second, .val (.long y4), .second, .val (.int y5), .val (.ref b1xn), .val (.long v12), .second, .val (.long v19), .second, .val (.long xcs), .second, .unset, .unset, .unset, .unset, .unset, .unset, .unset, .unset, .unset, .unset, .unset, .unset, .unset, .unset, .unset]) rfl ?_
    show Steps p.tables e below (T9.setTop (mkF m 37 #[.val (.long y1), .second, .val (.long y2), .second, .val (.long y3), .second, .val (.long y4), .second, .val (.int y5), .val (.ref b1xn), .val (.long v12), .second, .val (.long v19), .second, .val (.long xcs), .second, .unset, .unset, .unset, .unset, .unset, .unset, .unset, .unset, .unset, .unset, .unset, .unset, .unset, .unset, .unset] [])) _
    refine XS.iload X9.here hx rfl (hb hby at_37) rfl ?_
    show Steps p.tables e below (T9.setTop (mkF m 39 #[.val (.long y1), .second, .val (.long y2), .second, .val (.long y3), .second, .val (.long y4), .second, .val (.int y5), .val (.ref b1xn), .val (.long v12), .second, .val (.long v19), .second, .val (.long xcs), .second, .unset, .unset, .unset, .unset, .unset, .unset, .unset, .unset, .unset, .unset, .unset, .unset, .unset, .unset, .unset] [(.int y5)])) _
    refine XS.iconst X9.here hx rfl (hb hby at_39) ?_
    show Steps p.tables e below (T9.setTop (mkF m 40 #[.val (.long y1), .second, .val (.long y2), .second, .val (.long y3), .second, .val (.long y4), .second, .val (.int y5), .val (.ref b1xn), .val (.long v12), .second, .val (.long v19), .second, .val (.long xcs), .second, .unset, .unset, .unset, .unset, .unset, .unset, .unset, .unset, .unset, .unset, .unset, .unset, .unset, .unset, .unset] [(.int (2 : Int32)), (.int y5)])) _
    refine XS.iand X9.here hx rfl (hb hby at_40) rfl ?_
    exact k
  obtain ⟨xce, hxce⟩ : ∃ w : Int64, w = (if (y5 &&& (2 : Int32)) = (0 : Int32) then y4 else v19) := ⟨_, rfl⟩
  have pre14 : ∀ t, Steps p.tables e below (T9.setTop (mkF m 51 #[.val (.long y1), .second, .val (.long y2), .second, .val (.long y3), .second, .val (.long y4), .second, .val (.int y5), .val (.ref b1xn), .val (.long v12), .second, .val (.long v19), .second, .val (.long xcs), .second, .unset, .unset, .unset, .unset, .unset, .unset, .unset, .unset, .unset, .unset, .unset, .unset, .unset, .unset, .unset] [(.long xce)])) t → Steps p.tables e below (s₁.setTop (entryFrame m #[(.long y1), (.long y2), (.long y3), (.long y4), (.int y5)] maxLocals)) t := by
    intro t k
    refine pre13 _ ?_
    by_cases hm41 : (y5 &&& (2 : Int32)) = (0 : Int32)
    · have hq := hxce
      rw [if_pos hm41] at hq
      rw [hq] at k
      show Steps p.tables e below (T9.setTop (mkF m 41 #[.val (.long y1), .second, .val (.long y2), .second, .val (.long y3), .second, .val (.long y4), .second, .val (.int y5), .val (.ref b1xn), .val (.long v12), .second, .val (.long v19), .second, .val (.long xcs), .second, .unset, .unset, .unset, .unset, .unset, .unset, .unset, .unset, .unset, .unset, .unset, .unset, .unset, .unset, .unset] [(.int (y5 &&& (2 : Int32)))])) _
      refine XS.ifYes X9.here hx rfl (pc0 := 41) (pc' := 49) rfl (hb hby at_41) rfl ((if0 _ _).trans (teq hm41).1) (by decide) (by decide) ?_
      show Steps p.tables e below (T9.setTop (mkF m 49 #[.val (.long y1), .second, .val (.long y2), .second, .val (.long y3), .second, .val (.long y4), .second, .val (.int y5), .val (.ref b1xn), .val (.long v12), .second, .val (.long v19), .second, .val (.long xcs), .second, .unset, .unset, .unset, .unset, .unset, .unset, .unset, .unset, .unset, .unset, .unset, .unset, .unset, .unset, .unset] [])) _
      refine XS.lload X9.here hx rfl (hb hby at_49) rfl ?_
      exact k
    · have hq := hxce
      rw [if_neg hm41] at hq
      rw [hq] at k
      show Steps p.tables e below (T9.setTop (mkF m 41 #[.val (.long y1), .second, .val (.long y2), .second, .val (.long y3), .second, .val (.long y4), .second, .val (.int y5), .val (.ref b1xn), .val (.long v12), .second, .val (.long v19), .second, .val (.long xcs), .second, .unset, .unset, .unset, .unset, .unset, .unset, .unset, .unset, .unset, .unset, .unset, .unset, .unset, .unset, .unset] [(.int (y5 &&& (2 : Int32)))])) _
      refine XS.ifNo X9.here hx rfl (hb hby at_41) rfl ((if0 _ _).trans (feq hm41).1) ?_
      show Steps p.tables e below (T9.setTop (mkF m 44 #[.val (.long y1), .second, .val (.long y2), .second, .val (.long y3), .second, .val (.long y4), .second, .val (.int y5), .val (.ref b1xn), .val (.long v12), .second, .val (.long v19), .second, .val (.long xcs), .second, .unset, .unset, .unset, .unset, .unset, .unset, .unset, .unset, .unset, .unset, .unset, .unset, .unset, .unset, .unset] [])) _
      refine XS.lload X9.here hx rfl (hb hby at_44) rfl ?_
      show Steps p.tables e below (T9.setTop (mkF m 46 #[.val (.long y1), .second, .val (.long y2), .second, .val (.long y3), .second, .val (.long y4), .second, .val (.int y5), .val (.ref b1xn), .val (.long v12), .second, .val (.long v19), .second, .val (.long xcs), .second, .unset, .unset, .unset, .unset, .unset, .unset, .unset, .unset, .unset, .unset, .unset, .unset, .unset, .unset, .unset] [(.long v19)])) _
      refine XS.goto X9.here hx rfl (pc0 := 46) (pc' := 51) rfl (hb hby at_46) (by decide) (by decide) ?_
      exact k
  obtain ⟨_, _, ⟨T15, L15, k15, n15⟩, -, X15, ⟨Lc15, hQ15, l15, y15, z15⟩, st15⟩ := Jvm.LawKit.callS X9 hx (y := (⟨"com/example/clotho/clotho/model/SegmentEqualsPinLaw", "make", "(JJ)Lcom/example/clotho/clotho/model/Segment;"⟩ : MethodName)) hown (mvT hZ (hw _ (List.mem_of_getElem? (i := 0) rfl))) (mvT hZ (hw _ (List.mem_of_getElem? (i := 1) rfl))) (mvT hZ (hw _ (List.mem_of_getElem? (i := 2) rfl))) (mvT hZ (hw _ (List.mem_of_getElem? (i := 3) rfl))) (by decide) (backOf (W := 0) (own_rm1 l Z a0 hw [] xcs xce T1.heap n0 Z1 ) hZ (hw _ (List.mem_of_getElem? (i := 3) rfl)) (hw _ (List.mem_of_getElem? (i := 2) rfl)) (by decide) (by decide)) (g := (mkF m 57 #[.val (.long y1), .second, .val (.long y2), .second, .val (.long y3), .second, .val (.long y4), .second, .val (.int y5), .val (.ref b1xn), .val (.long v12), .second, .val (.long v19), .second, .val (.long xcs), .second, .val (.long xce), .second, .unset, .unset, .unset, .unset, .unset, .unset, .unset, .unset, .unset, .unset, .unset, .unset, .unset] [(.long xce), (.long xcs)])) rfl (by rw [hml]; rfl) (argsL := [(.long xcs), (.long xce)]) (rest := []) (lenOf own_pd3 rfl) rfl (by show 2 * 0 + _ ≤ _; exact Nat.le_of_eq rfl) (hb hby at_57) (fun _ _ => ⟨rfl, eh9, (by decide : 1 + 1 ≤ _), (by decide : 2 + 2 ≤ _)⟩)
  dsimp only [Pt.U, Pt.locs, Pt.cells, Pt.slots] at X15 l15 y15 z15 st15 hQ15
  subst l15 y15 z15
  obtain ⟨b15xn, rfl, N15q, K15q, sz0_b15xn, lt_b15xn, F16, F17, F18⟩ := hQ15
  have K15 := K15q
  have ne_xc_b15xn : xc ≠ b15xn := Nat.ne_of_lt (Nat.lt_of_lt_of_le F6.lt sz0_b15xn)
  have ne_b1xn_b15xn : b1xn ≠ b15xn := Nat.ne_of_lt (Nat.lt_of_lt_of_le F4.lt sz0_b15xn)
  have g_b15xn : n0 ≤ b15xn := Nat.le_trans Z1 sz0_b15xn
  have sz_b15xn : h0.size ≤ b15xn := Nat.le_trans KK1.1 sz0_b15xn
  have KK15 : Keep h0 T15.heap [] := KK1.trans K15 all0
  have F19 : Sta Z T15.heap "java/lang/Long$LongCache" "cache" "[Ljava/lang/Long;" (.ref xc) := S_cache.ext (own_ext KK15)
  have F20 : Arr Z T15.heap xc xcl (.object "java/lang/Long") := R_xc.ext (own_ext KK15)
  have F21 : Exa Z T15.heap b1xn "com/example/clotho/clotho/model/Segment" := F2.keep K15
  have F22 : Fld Z T15.heap b1xn "com/example/clotho/clotho/model/Segment" "start" "J" (.long (own_ms y1 y2)) := F3.keep K15 nin0
  have F23 : Fld Z T15.heap b1xn "com/example/clotho/clotho/model/Segment" "end" "J" (.long (own_me y1 y2)) := F4.keep K15 nin0
  have Z15 : n0 ≤ T15.heap.size := Nat.le_trans Z1 K15.1
  have N15 := Fr.app N9 N15q
  obtain ⟨cq24, kq24, q24a, q24b, q24c⟩ := isOf hZ rfl F16
  obtain ⟨_, _, ⟨T24, L24, k24, n24⟩, -, X24, ⟨Lc24, hQ24, l24, y24, z24⟩, st24⟩ := X15.virtualBack hx (y := (⟨"com/example/clotho/clotho/model/Segment", "getStart", "()J"⟩ : MethodName)) (z := (⟨"com/example/clotho/clotho/model/Segment", "getStart", "()J"⟩ : MethodName)) hown (mvT hZ (hw _ (List.mem_of_getElem? (i := 17) rfl))) (mvT hZ (hw _ (List.mem_of_getElem? (i := 18) rfl))) (notFace_of_selects (args := #[]) (mvT hZ (hw _ (List.mem_of_getElem? (i := 20) rfl)))) (mvT hZ (hw _ (List.mem_of_getElem? (i := 20) rfl))) (mvT hZ (hw _ (List.mem_of_getElem? (i := 19) rfl))) (by decide) (backOf (W := 0) (own_rm4 l Z a0 hw [] b15xn (own_ms xcs xce) T15.heap n0 Z15 F17) hZ (hw _ (List.mem_of_getElem? (i := 21) rfl)) (hw _ (List.mem_of_getElem? (i := 6) rfl)) (by decide) (by decide)) q24a q24c (g := (mkF m 64 #[.val (.long y1), .second, .val (.long y2), .second, .val (.long y3), .second, .val (.long y4), .second, .val (.int y5), .val (.ref b1xn), .val (.long v12), .second, .val (.long v19), .second, .val (.long xcs), .second, .val (.long xce), .second, .val (.ref b15xn), .unset, .unset, .unset, .unset, .unset, .unset, .unset, .unset, .unset, .unset, .unset, .unset] [(.ref b15xn)])) rfl (by rw [hml]; rfl) (Steps.refl _) (argsL := []) (rest := []) (lenOf own_pd4 rfl) rfl (by show 2 * 0 + _ ≤ _; exact Nat.le_of_eq rfl) (hb hby at_64) (fun _ _ => ⟨rfl, rfl, (by decide : 2 + 0 ≤ _), (by decide : 4 + 0 ≤ _)⟩)
  dsimp only [Pt.U, Pt.locs, Pt.cells, Pt.slots] at X24 l24 y24 z24 st24 hQ24
  subst l24 y24 z24
  obtain ⟨rfl, N24q, eh24⟩ := hQ24
  have N24 := Fr.app N15 N24q
  obtain ⟨v67, hv67⟩ : ∃ w : Int64, w = (own_ms xcs xce) := ⟨_, rfl⟩
  have pre25 : ∀ t, Steps p.tables e below (T24.setTop (mkF m 69 #[.val (.long y1), .second, .val (.long y2), .second, .val (.long y3), .second, .val (.long y4), .second, .val (.int y5), .val (.ref b1xn), .val (.long v12), .second, .val (.long v19), .second, .val (.long xcs), .second, .val (.long xce), .second, .val (.ref b15xn), .val (.long v67), .second, .unset, .unset, .unset, .unset, .unset, .unset, .unset, .unset, .unset, .unset] [])) t → Steps p.tables e below (s₁.setTop (entryFrame m #[(.long y1), (.long y2), (.long y3), (.long y4), (.int y5)] maxLocals)) t := by
    intro t k
    rw [hv67] at k
    refine pre14 _ ?_
    show Steps p.tables e below (T9.setTop (mkF m 51 #[.val (.long y1), .second, .val (.long y2), .second, .val (.long y3), .second, .val (.long y4), .second, .val (.int y5), .val (.ref b1xn), .val (.long v12), .second, .val (.long v19), .second, .val (.long xcs), .second, .unset, .unset, .unset, .unset, .unset, .unset, .unset, .unset, .unset, .unset, .unset, .unset, .unset, .unset, .unset] [(.long xce)])) _
    refine XS.lstore X9.here hx rfl (hb hby at_51) rfl (l' := #[.val (.long y1), .second, .val (.long y2), .second, .val (.long y3), .second, .val (.long y4), .second, .val (.int y5), .val (.ref b1xn), .val (.long v12), .second, .val (.long v19), .second, .val (.long xcs), .second, .val (.long xce), .second, .unset, .unset, .unset, .unset, .unset, .unset, .unset, .unset, .unset, .unset, .unset, .unset, .unset]) rfl ?_
    show Steps p.tables e below (T9.setTop (mkF m 53 #[.val (.long y1), .second, .val (.long y2), .second, .val (.long y3), .second, .val (.long y4), .second, .val (.int y5), .val (.ref b1xn), .val (.long v12), .second, .val (.long v19), .second, .val (.long xcs), .second, .val (.long xce), .second, .unset, .unset, .unset, .unset, .unset, .unset, .unset, .unset, .unset, .unset, .unset, .unset, .unset] [])) _
    refine XS.lload X9.here hx rfl (hb hby at_53) rfl ?_
    show Steps p.tables e below (T9.setTop (mkF m 55 #[.val (.long y1), .second, .val (.long y2), .second, .val (.long y3), .second, .val (.long y4), .second, .val (.int y5), .val (.ref b1xn), .val (.long v12), .second, .val (.long v19), .second, .val (.long xcs), .second, .val (.long xce), .second, .unset, .unset, .unset, .unset, .unset, .unset, .unset, .unset, .unset, .unset, .unset, .unset, .unset] [(.long xcs)])) _
    refine XS.lload X9.here hx rfl (hb hby at_55) rfl ?_
    show Steps p.tables e below (T9.setTop (mkF m 57 #[.val (.long y1), .second, .val (.long y2), .second, .val (.long y3), .second, .val (.long y4), .second, .val (.int y5), .val (.ref b1xn), .val (.long v12), .second, .val (.long v19), .second, .val (.long xcs), .second, .val (.long xce), .second, .unset, .unset, .unset, .unset, .unset, .unset, .unset, .unset, .unset, .unset, .unset, .unset, .unset] [(.long xce), (.long xcs)])) _
    refine st15 _ ?_
    show Steps p.tables e below (T15.setTop (mkF m 60 #[.val (.long y1), .second, .val (.long y2), .second, .val (.long y3), .second, .val (.long y4), .second, .val (.int y5), .val (.ref b1xn), .val (.long v12), .second, .val (.long v19), .second, .val (.long xcs), .second, .val (.long xce), .second, .unset, .unset, .unset, .unset, .unset, .unset, .unset, .unset, .unset, .unset, .unset, .unset, .unset] [(.ref b15xn)])) _
    refine XS.astore X15.here hx rfl (hb hby at_60) rfl rfl (l' := #[.val (.long y1), .second, .val (.long y2), .second, .val (.long y3), .second, .val (.long y4), .second, .val (.int y5), .val (.ref b1xn), .val (.long v12), .second, .val (.long v19), .second, .val (.long xcs), .second, .val (.long xce), .second, .val (.ref b15xn), .unset, .unset, .unset, .unset, .unset, .unset, .unset, .unset, .unset, .unset, .unset, .unset]) rfl ?_
    show Steps p.tables e below (T15.setTop (mkF m 62 #[.val (.long y1), .second, .val (.long y2), .second, .val (.long y3), .second, .val (.long y4), .second, .val (.int y5), .val (.ref b1xn), .val (.long v12), .second, .val (.long v19), .second, .val (.long xcs), .second, .val (.long xce), .second, .val (.ref b15xn), .unset, .unset, .unset, .unset, .unset, .unset, .unset, .unset, .unset, .unset, .unset, .unset] [])) _
    refine XS.aload X15.here hx rfl (hb hby at_62) rfl rfl ?_
    show Steps p.tables e below (T15.setTop (mkF m 64 #[.val (.long y1), .second, .val (.long y2), .second, .val (.long y3), .second, .val (.long y4), .second, .val (.int y5), .val (.ref b1xn), .val (.long v12), .second, .val (.long v19), .second, .val (.long xcs), .second, .val (.long xce), .second, .val (.ref b15xn), .unset, .unset, .unset, .unset, .unset, .unset, .unset, .unset, .unset, .unset, .unset, .unset] [(.ref b15xn)])) _
    refine st24.trans ?_
    show Steps p.tables e below (T24.setTop (mkF m 67 #[.val (.long y1), .second, .val (.long y2), .second, .val (.long y3), .second, .val (.long y4), .second, .val (.int y5), .val (.ref b1xn), .val (.long v12), .second, .val (.long v19), .second, .val (.long xcs), .second, .val (.long xce), .second, .val (.ref b15xn), .unset, .unset, .unset, .unset, .unset, .unset, .unset, .unset, .unset, .unset, .unset, .unset] [(.long (own_ms xcs xce))])) _
    refine XS.lstore X24.here hx rfl (hb hby at_67) rfl (l' := #[.val (.long y1), .second, .val (.long y2), .second, .val (.long y3), .second, .val (.long y4), .second, .val (.int y5), .val (.ref b1xn), .val (.long v12), .second, .val (.long v19), .second, .val (.long xcs), .second, .val (.long xce), .second, .val (.ref b15xn), .val (.long (own_ms xcs xce)), .second, .unset, .unset, .unset, .unset, .unset, .unset, .unset, .unset, .unset, .unset]) rfl ?_
    exact k
  obtain ⟨cq26, kq26, q26a, q26b, q26c⟩ := isOf hZ eh24 F16
  obtain ⟨_, _, ⟨T26, L26, k26, n26⟩, -, X26, ⟨Lc26, hQ26, l26, y26, z26⟩, st26⟩ := X24.virtualBack hx (y := (⟨"com/example/clotho/clotho/model/Segment", "getEnd", "()J"⟩ : MethodName)) (z := (⟨"com/example/clotho/clotho/model/Segment", "getEnd", "()J"⟩ : MethodName)) hown (mvT hZ (hw _ (List.mem_of_getElem? (i := 22) rfl))) (mvT hZ (hw _ (List.mem_of_getElem? (i := 23) rfl))) (notFace_of_selects (args := #[]) (mvT hZ (hw _ (List.mem_of_getElem? (i := 25) rfl)))) (mvT hZ (hw _ (List.mem_of_getElem? (i := 25) rfl))) (mvT hZ (hw _ (List.mem_of_getElem? (i := 24) rfl))) (by decide) (backOf (W := 0) (own_rm5 l Z a0 hw [] b15xn (own_me xcs xce) T15.heap n0 Z15 F18) hZ (hw _ (List.mem_of_getElem? (i := 26) rfl)) (hw _ (List.mem_of_getElem? (i := 6) rfl)) (by decide) (by decide)) q26a q26c (g := (mkF m 71 #[.val (.long y1), .second, .val (.long y2), .second, .val (.long y3), .second, .val (.long y4), .second, .val (.int y5), .val (.ref b1xn), .val (.long v12), .second, .val (.long v19), .second, .val (.long xcs), .second, .val (.long xce), .second, .val (.ref b15xn), .val (.long v67), .second, .unset, .unset, .unset, .unset, .unset, .unset, .unset, .unset, .unset, .unset] [(.ref b15xn)])) rfl (by rw [hml]; rfl) (Steps.refl _) (argsL := []) (rest := []) (lenOf own_pd4 rfl) rfl (by show 2 * 0 + _ ≤ _; exact Nat.le_of_eq rfl) (hb hby at_71) (fun _ _ => ⟨rfl, eh24, (by decide : 2 + 0 ≤ _), (by decide : 4 + 0 ≤ _)⟩)
  dsimp only [Pt.U, Pt.locs, Pt.cells, Pt.slots] at X26 l26 y26 z26 st26 hQ26
  subst l26 y26 z26
  obtain ⟨rfl, N26q, eh26⟩ := hQ26
  have N26 := Fr.app N24 N26q
  obtain ⟨v74, hv74⟩ : ∃ w : Int64, w = (own_me xcs xce) := ⟨_, rfl⟩
  have pre27 : ∀ t, Steps p.tables e below (T26.setTop (mkF m 76 #[.val (.long y1), .second, .val (.long y2), .second, .val (.long y3), .second, .val (.long y4), .second, .val (.int y5), .val (.ref b1xn), .val (.long v12), .second, .val (.long v19), .second, .val (.long xcs), .second, .val (.long xce), .second, .val (.ref b15xn), .val (.long v67), .second, .val (.long v74), .second, .unset, .unset, .unset, .unset, .unset, .unset, .unset, .unset] [])) t → Steps p.tables e below (s₁.setTop (entryFrame m #[(.long y1), (.long y2), (.long y3), (.long y4), (.int y5)] maxLocals)) t := by
    intro t k
    rw [hv74] at k
    refine pre25 _ ?_
    show Steps p.tables e below (T24.setTop (mkF m 69 #[.val (.long y1), .second, .val (.long y2), .second, .val (.long y3), .second, .val (.long y4), .second, .val (.int y5), .val (.ref b1xn), .val (.long v12), .second, .val (.long v19), .second, .val (.long xcs), .second, .val (.long xce), .second, .val (.ref b15xn), .val (.long v67), .second, .unset, .unset, .unset, .unset, .unset, .unset, .unset, .unset, .unset, .unset] [])) _
    refine XS.aload X24.here hx rfl (hb hby at_69) rfl rfl ?_
    show Steps p.tables e below (T24.setTop (mkF m 71 #[.val (.long y1), .second, .val (.long y2), .second, .val (.long y3), .second, .val (.long y4), .second, .val (.int y5), .val (.ref b1xn), .val (.long v12), .second, .val (.long v19), .second, .val (.long xcs), .second, .val (.long xce), .second, .val (.ref b15xn), .val (.long v67), .second, .unset, .unset, .unset, .unset, .unset, .unset, .unset, .unset, .unset, .unset] [(.ref b15xn)])) _
    refine st26.trans ?_
    show Steps p.tables e below (T26.setTop (mkF m 74 #[.val (.long y1), .second, .val (.long y2), .second, .val (.long y3), .second, .val (.long y4), .second, .val (.int y5), .val (.ref b1xn), .val (.long v12), .second, .val (.long v19), .second, .val (.long xcs), .second, .val (.long xce), .second, .val (.ref b15xn), .val (.long v67), .second, .unset, .unset, .unset, .unset, .unset, .unset, .unset, .unset, .unset, .unset] [(.long (own_me xcs xce))])) _
    refine XS.lstore X26.here hx rfl (hb hby at_74) rfl (l' := #[.val (.long y1), .second, .val (.long y2), .second, .val (.long y3), .second, .val (.long y4), .second, .val (.int y5), .val (.ref b1xn), .val (.long v12), .second, .val (.long v19), .second, .val (.long xcs), .second, .val (.long xce), .second, .val (.ref b15xn), .val (.long v67), .second, .val (.long (own_me xcs xce)), .second, .unset, .unset, .unset, .unset, .unset, .unset, .unset, .unset]) rfl ?_
    exact k
  have pre28 : ∀ t, Steps p.tables e below (T26.setTop (mkF m 81 #[.val (.long y1), .second, .val (.long y2), .second, .val (.long y3), .second, .val (.long y4), .second, .val (.int y5), .val (.ref b1xn), .val (.long v12), .second, .val (.long v19), .second, .val (.long xcs), .second, .val (.long xce), .second, .val (.ref b15xn), .val (.long v67), .second, .val (.long v74), .second, .unset, .unset, .unset, .unset, .unset, .unset, .unset, .unset] [(.int (lcmpW v12 v67))])) t → Steps p.tables e below (s₁.setTop (entryFrame m #[(.long y1), (.long y2), (.long y3), (.long y4), (.int y5)] maxLocals)) t := by
    intro t k
    refine pre27 _ ?_
    show Steps p.tables e below (T26.setTop (mkF m 76 #[.val (.long y1), .second, .val (.long y2), .second, .val (.long y3), .second, .val (.long y4), .second, .val (.int y5), .val (.ref b1xn), .val (.long v12), .second, .val (.long v19), .second, .val (.long xcs), .second, .val (.long xce), .second, .val (.ref b15xn), .val (.long v67), .second, .val (.long v74), .second, .unset, .unset, .unset, .unset, .unset, .unset, .unset, .unset] [])) _
    refine XS.lload X26.here hx rfl (hb hby at_76) rfl ?_
    show Steps p.tables e below (T26.setTop (mkF m 78 #[.val (.long y1), .second, .val (.long y2), .second, .val (.long y3), .second, .val (.long y4), .second, .val (.int y5), .val (.ref b1xn), .val (.long v12), .second, .val (.long v19), .second, .val (.long xcs), .second, .val (.long xce), .second, .val (.ref b15xn), .val (.long v67), .second, .val (.long v74), .second, .unset, .unset, .unset, .unset, .unset, .unset, .unset, .unset] [(.long v12)])) _
    refine XS.lload X26.here hx rfl (hb hby at_78) rfl ?_
    show Steps p.tables e below (T26.setTop (mkF m 80 #[.val (.long y1), .second, .val (.long y2), .second, .val (.long y3), .second, .val (.long y4), .second, .val (.int y5), .val (.ref b1xn), .val (.long v12), .second, .val (.long v19), .second, .val (.long xcs), .second, .val (.long xce), .second, .val (.ref b15xn), .val (.long v67), .second, .val (.long v74), .second, .unset, .unset, .unset, .unset, .unset, .unset, .unset, .unset] [(.long v67), (.long v12)])) _
    refine XS.lcmp X26.here hx rfl (hb hby at_80) rfl ?_
    exact k
  obtain ⟨xe, hxe⟩ : ∃ w : Int32, w = (if v12 = v67 then (if v19 = v74 then (1 : Int32) else (0 : Int32)) else (0 : Int32)) := ⟨_, rfl⟩
  have pre29 : ∀ t, Steps p.tables e below (T26.setTop (mkF m 97 #[.val (.long y1), .second, .val (.long y2), .second, .val (.long y3), .second, .val (.long y4), .second, .val (.int y5), .val (.ref b1xn), .val (.long v12), .second, .val (.long v19), .second, .val (.long xcs), .second, .val (.long xce), .second, .val (.ref b15xn), .val (.long v67), .second, .val (.long v74), .second, .unset, .unset, .unset, .unset, .unset, .unset, .unset, .unset] [(.int xe)])) t → Steps p.tables e below (s₁.setTop (entryFrame m #[(.long y1), (.long y2), (.long y3), (.long y4), (.int y5)] maxLocals)) t := by
    intro t k
    refine pre28 _ ?_
    by_cases hm81 : v12 = v67
    · by_cases hm89 : v19 = v74
      · have hq := hxe
        rw [if_pos hm81, if_pos hm89] at hq
        rw [hq] at k
        show Steps p.tables e below (T26.setTop (mkF m 81 #[.val (.long y1), .second, .val (.long y2), .second, .val (.long y3), .second, .val (.long y4), .second, .val (.int y5), .val (.ref b1xn), .val (.long v12), .second, .val (.long v19), .second, .val (.long xcs), .second, .val (.long xce), .second, .val (.ref b15xn), .val (.long v67), .second, .val (.long v74), .second, .unset, .unset, .unset, .unset, .unset, .unset, .unset, .unset] [(.int (lcmpW v12 v67))])) _
        refine XS.ifNo X26.here hx rfl (hb hby at_81) rfl ((if0 _ _).trans (teq ((lw_eq v12 v67).mpr hm81)).2) ?_
        show Steps p.tables e below (T26.setTop (mkF m 84 #[.val (.long y1), .second, .val (.long y2), .second, .val (.long y3), .second, .val (.long y4), .second, .val (.int y5), .val (.ref b1xn), .val (.long v12), .second, .val (.long v19), .second, .val (.long xcs), .second, .val (.long xce), .second, .val (.ref b15xn), .val (.long v67), .second, .val (.long v74), .second, .unset, .unset, .unset, .unset, .unset, .unset, .unset, .unset] [])) _
        refine XS.lload X26.here hx rfl (hb hby at_84) rfl ?_
        show Steps p.tables e below (T26.setTop (mkF m 86 #[.val (.long y1), .second, .val (.long y2), .second, .val (.long y3), .second, .val (.long y4), .second, .val (.int y5), .val (.ref b1xn), .val (.long v12), .second, .val (.long v19), .second, .val (.long xcs), .second, .val (.long xce), .second, .val (.ref b15xn), .val (.long v67), .second, .val (.long v74), .second, .unset, .unset, .unset, .unset, .unset, .unset, .unset, .unset] [(.long v19)])) _
        refine XS.lload X26.here hx rfl (hb hby at_86) rfl ?_
        show Steps p.tables e below (T26.setTop (mkF m 88 #[.val (.long y1), .second, .val (.long y2), .second, .val (.long y3), .second, .val (.long y4), .second, .val (.int y5), .val (.ref b1xn), .val (.long v12), .second, .val (.long v19), .second, .val (.long xcs), .second, .val (.long xce), .second, .val (.ref b15xn), .val (.long v67), .second, .val (.long v74), .second, .unset, .unset, .unset, .unset, .unset, .unset, .unset, .unset] [(.long v74), (.long v19)])) _
        refine XS.lcmp X26.here hx rfl (hb hby at_88) rfl ?_
        show Steps p.tables e below (T26.setTop (mkF m 89 #[.val (.long y1), .second, .val (.long y2), .second, .val (.long y3), .second, .val (.long y4), .second, .val (.int y5), .val (.ref b1xn), .val (.long v12), .second, .val (.long v19), .second, .val (.long xcs), .second, .val (.long xce), .second, .val (.ref b15xn), .val (.long v67), .second, .val (.long v74), .second, .unset, .unset, .unset, .unset, .unset, .unset, .unset, .unset] [(.int (lcmpW v19 v74))])) _
        refine XS.ifNo X26.here hx rfl (hb hby at_89) rfl ((if0 _ _).trans (teq ((lw_eq v19 v74).mpr hm89)).2) ?_
        show Steps p.tables e below (T26.setTop (mkF m 92 #[.val (.long y1), .second, .val (.long y2), .second, .val (.long y3), .second, .val (.long y4), .second, .val (.int y5), .val (.ref b1xn), .val (.long v12), .second, .val (.long v19), .second, .val (.long xcs), .second, .val (.long xce), .second, .val (.ref b15xn), .val (.long v67), .second, .val (.long v74), .second, .unset, .unset, .unset, .unset, .unset, .unset, .unset, .unset] [])) _
        refine XS.iconst X26.here hx rfl (hb hby at_92) ?_
        show Steps p.tables e below (T26.setTop (mkF m 93 #[.val (.long y1), .second, .val (.long y2), .second, .val (.long y3), .second, .val (.long y4), .second, .val (.int y5), .val (.ref b1xn), .val (.long v12), .second, .val (.long v19), .second, .val (.long xcs), .second, .val (.long xce), .second, .val (.ref b15xn), .val (.long v67), .second, .val (.long v74), .second, .unset, .unset, .unset, .unset, .unset, .unset, .unset, .unset] [(.int (1 : Int32))])) _
        refine XS.goto X26.here hx rfl (pc0 := 93) (pc' := 97) rfl (hb hby at_93) (by decide) (by decide) ?_
        exact k
      · have hq := hxe
        rw [if_pos hm81, if_neg hm89] at hq
        rw [hq] at k
        show Steps p.tables e below (T26.setTop (mkF m 81 #[.val (.long y1), .second, .val (.long y2), .second, .val (.long y3), .second, .val (.long y4), .second, .val (.int y5), .val (.ref b1xn), .val (.long v12), .second, .val (.long v19), .second, .val (.long xcs), .second, .val (.long xce), .second, .val (.ref b15xn), .val (.long v67), .second, .val (.long v74), .second, .unset, .unset, .unset, .unset, .unset, .unset, .unset, .unset] [(.int (lcmpW v12 v67))])) _
        refine XS.ifNo X26.here hx rfl (hb hby at_81) rfl ((if0 _ _).trans (teq ((lw_eq v12 v67).mpr hm81)).2) ?_
        show Steps p.tables e below (T26.setTop (mkF m 84 #[.val (.long y1), .second, .val (.long y2), .second, .val (.long y3), .second, .val (.long y4), .second, .val (.int y5), .val (.ref b1xn), .val (.long v12), .second, .val (.long v19), .second, .val (.long xcs), .second, .val (.long xce), .second, .val (.ref b15xn), .val (.long v67), .second, .val (.long v74), .second, .unset, .unset, .unset, .unset, .unset, .unset, .unset, .unset] [])) _
        refine XS.lload X26.here hx rfl (hb hby at_84) rfl ?_
        show Steps p.tables e below (T26.setTop (mkF m 86 #[.val (.long y1), .second, .val (.long y2), .second, .val (.long y3), .second, .val (.long y4), .second, .val (.int y5), .val (.ref b1xn), .val (.long v12), .second, .val (.long v19), .second, .val (.long xcs), .second, .val (.long xce), .second, .val (.ref b15xn), .val (.long v67), .second, .val (.long v74), .second, .unset, .unset, .unset, .unset, .unset, .unset, .unset, .unset] [(.long v19)])) _
        refine XS.lload X26.here hx rfl (hb hby at_86) rfl ?_
        show Steps p.tables e below (T26.setTop (mkF m 88 #[.val (.long y1), .second, .val (.long y2), .second, .val (.long y3), .second, .val (.long y4), .second, .val (.int y5), .val (.ref b1xn), .val (.long v12), .second, .val (.long v19), .second, .val (.long xcs), .second, .val (.long xce), .second, .val (.ref b15xn), .val (.long v67), .second, .val (.long v74), .second, .unset, .unset, .unset, .unset, .unset, .unset, .unset, .unset] [(.long v74), (.long v19)])) _
        refine XS.lcmp X26.here hx rfl (hb hby at_88) rfl ?_
        show Steps p.tables e below (T26.setTop (mkF m 89 #[.val (.long y1), .second, .val (.long y2), .second, .val (.long y3), .second, .val (.long y4), .second, .val (.int y5), .val (.ref b1xn), .val (.long v12), .second, .val (.long v19), .second, .val (.long xcs), .second, .val (.long xce), .second, .val (.ref b15xn), .val (.long v67), .second, .val (.long v74), .second, .unset, .unset, .unset, .unset, .unset, .unset, .unset, .unset] [(.int (lcmpW v19 v74))])) _
        refine XS.ifYes X26.here hx rfl (pc0 := 89) (pc' := 96) rfl (hb hby at_89) rfl ((if0 _ _).trans (feq (fun z => hm89 ((lw_eq v19 v74).mp z))).2) (by decide) (by decide) ?_
        show Steps p.tables e below (T26.setTop (mkF m 96 #[.val (.long y1), .second, .val (.long y2), .second, .val (.long y3), .second, .val (.long y4), .second, .val (.int y5), .val (.ref b1xn), .val (.long v12), .second, .val (.long v19), .second, .val (.long xcs), .second, .val (.long xce), .second, .val (.ref b15xn), .val (.long v67), .second, .val (.long v74), .second, .unset, .unset, .unset, .unset, .unset, .unset, .unset, .unset] [])) _
        refine XS.iconst X26.here hx rfl (hb hby at_96) ?_
        exact k
    · have hq := hxe
      rw [if_neg hm81] at hq
      rw [hq] at k
      show Steps p.tables e below (T26.setTop (mkF m 81 #[.val (.long y1), .second, .val (.long y2), .second, .val (.long y3), .second, .val (.long y4), .second, .val (.int y5), .val (.ref b1xn), .val (.long v12), .second, .val (.long v19), .second, .val (.long xcs), .second, .val (.long xce), .second, .val (.ref b15xn), .val (.long v67), .second, .val (.long v74), .second, .unset, .unset, .unset, .unset, .unset, .unset, .unset, .unset] [(.int (lcmpW v12 v67))])) _
      refine XS.ifYes X26.here hx rfl (pc0 := 81) (pc' := 96) rfl (hb hby at_81) rfl ((if0 _ _).trans (feq (fun z => hm81 ((lw_eq v12 v67).mp z))).2) (by decide) (by decide) ?_
      show Steps p.tables e below (T26.setTop (mkF m 96 #[.val (.long y1), .second, .val (.long y2), .second, .val (.long y3), .second, .val (.long y4), .second, .val (.int y5), .val (.ref b1xn), .val (.long v12), .second, .val (.long v19), .second, .val (.long xcs), .second, .val (.long xce), .second, .val (.ref b15xn), .val (.long v67), .second, .val (.long v74), .second, .unset, .unset, .unset, .unset, .unset, .unset, .unset, .unset] [])) _
      refine XS.iconst X26.here hx rfl (hb hby at_96) ?_
      exact k
  obtain ⟨cq30, kq30, q30a, q30b, q30c⟩ := isOf hZ eh26 F21
  obtain ⟨_, _, ⟨T30, L30, k30, n30⟩, -, X30, ⟨Lc30, hQ30, l30, y30, z30⟩, st30⟩ := X26.virtualBack hx (y := (⟨"com/example/clotho/clotho/model/Segment", "equals", "(Ljava/lang/Object;)Z"⟩ : MethodName)) (z := (⟨"com/example/clotho/clotho/model/Segment", "equals", "(Ljava/lang/Object;)Z"⟩ : MethodName)) hown (mvT hZ (hw _ (List.mem_of_getElem? (i := 27) rfl))) (mvT hZ (hw _ (List.mem_of_getElem? (i := 28) rfl))) (notFace_of_selects (args := #[]) (mvT hZ (hw _ (List.mem_of_getElem? (i := 30) rfl)))) (mvT hZ (hw _ (List.mem_of_getElem? (i := 30) rfl))) (mvT hZ (hw _ (List.mem_of_getElem? (i := 29) rfl))) (by decide) (backOf (W := 0) (own_rm6s l Z a0 hw [] b1xn b15xn (own_ms y1 y2) (own_me y1 y2) (own_ms xcs xce) (own_me xcs xce) T15.heap n0 Z15 F16 F22 F23 F17 F18) hZ (hw _ (List.mem_of_getElem? (i := 31) rfl)) (hw _ (List.mem_of_getElem? (i := 6) rfl)) (by decide) (by decide)) q30a q30c (g := (mkF m 103 #[.val (.long y1), .second, .val (.long y2), .second, .val (.long y3), .second, .val (.long y4), .second, .val (.int y5), .val (.ref b1xn), .val (.long v12), .second, .val (.long v19), .second, .val (.long xcs), .second, .val (.long xce), .second, .val (.ref b15xn), .val (.long v67), .second, .val (.long v74), .second, .val (.int xe), .unset, .unset, .unset, .unset, .unset, .unset, .unset] [(.ref b15xn), (.ref b1xn)])) rfl (by rw [hml]; rfl) (Steps.refl _) (argsL := [(.ref b15xn)]) (rest := []) (lenOf own_pd5 rfl) rfl (by show 2 * 0 + _ ≤ _; exact Nat.le_of_eq rfl) (hb hby at_103) (fun _ _ => ⟨rfl, eh26, (by decide : 2 + 0 ≤ _), (by decide : 4 + 0 ≤ _)⟩)
  dsimp only [Pt.U, Pt.locs, Pt.cells, Pt.slots] at X30 l30 y30 z30 st30 hQ30
  subst l30 y30 z30
  obtain ⟨rfl, N30q, eh30⟩ := hQ30
  have N30 := Fr.app N26 N30q
  obtain ⟨v106, hv106⟩ : ∃ w : Int32, w = (own_eq (own_ms y1 y2) (own_me y1 y2) (own_ms xcs xce) (own_me xcs xce)) := ⟨_, rfl⟩
  have pre31 : ∀ t, Steps p.tables e below (T30.setTop (mkF m 108 #[.val (.long y1), .second, .val (.long y2), .second, .val (.long y3), .second, .val (.long y4), .second, .val (.int y5), .val (.ref b1xn), .val (.long v12), .second, .val (.long v19), .second, .val (.long xcs), .second, .val (.long xce), .second, .val (.ref b15xn), .val (.long v67), .second, .val (.long v74), .second, .val (.int xe), .val (.int v106), .unset, .unset, .unset, .unset, .unset, .unset] [])) t → Steps p.tables e below (s₁.setTop (entryFrame m #[(.long y1), (.long y2), (.long y3), (.long y4), (.int y5)] maxLocals)) t := by
    intro t k
    rw [hv106] at k
    refine pre29 _ ?_
    show Steps p.tables e below (T26.setTop (mkF m 97 #[.val (.long y1), .second, .val (.long y2), .second, .val (.long y3), .second, .val (.long y4), .second, .val (.int y5), .val (.ref b1xn), .val (.long v12), .second, .val (.long v19), .second, .val (.long xcs), .second, .val (.long xce), .second, .val (.ref b15xn), .val (.long v67), .second, .val (.long v74), .second, .unset, .unset, .unset, .unset, .unset, .unset, .unset, .unset] [(.int xe)])) _
    refine XS.istore X26.here hx rfl (hb hby at_97) rfl (l' := #[.val (.long y1), .second, .val (.long y2), .second, .val (.long y3), .second, .val (.long y4), .second, .val (.int y5), .val (.ref b1xn), .val (.long v12), .second, .val (.long v19), .second, .val (.long xcs), .second, .val (.long xce), .second, .val (.ref b15xn), .val (.long v67), .second, .val (.long v74), .second, .val (.int xe), .unset, .unset, .unset, .unset, .unset, .unset, .unset]) rfl ?_
    show Steps p.tables e below (T26.setTop (mkF m 99 #[.val (.long y1), .second, .val (.long y2), .second, .val (.long y3), .second, .val (.long y4), .second, .val (.int y5), .val (.ref b1xn), .val (.long v12), .second, .val (.long v19), .second, .val (.long xcs), .second, .val (.long xce), .second, .val (.ref b15xn), .val (.long v67), .second, .val (.long v74), .second, .val (.int xe), .unset, .unset, .unset, .unset, .unset, .unset, .unset] [])) _
    refine XS.aload X26.here hx rfl (hb hby at_99) rfl rfl ?_
    show Steps p.tables e below (T26.setTop (mkF m 101 #[.val (.long y1), .second, .val (.long y2), .second, .val (.long y3), .second, .val (.long y4), .second, .val (.int y5), .val (.ref b1xn), .val (.long v12), .second, .val (.long v19), .second, .val (.long xcs), .second, .val (.long xce), .second, .val (.ref b15xn), .val (.long v67), .second, .val (.long v74), .second, .val (.int xe), .unset, .unset, .unset, .unset, .unset, .unset, .unset] [(.ref b1xn)])) _
    refine XS.aload X26.here hx rfl (hb hby at_101) rfl rfl ?_
    show Steps p.tables e below (T26.setTop (mkF m 103 #[.val (.long y1), .second, .val (.long y2), .second, .val (.long y3), .second, .val (.long y4), .second, .val (.int y5), .val (.ref b1xn), .val (.long v12), .second, .val (.long v19), .second, .val (.long xcs), .second, .val (.long xce), .second, .val (.ref b15xn), .val (.long v67), .second, .val (.long v74), .second, .val (.int xe), .unset, .unset, .unset, .unset, .unset, .unset, .unset] [(.ref b15xn), (.ref b1xn)])) _
    refine st30.trans ?_
    show Steps p.tables e below (T30.setTop (mkF m 106 #[.val (.long y1), .second, .val (.long y2), .second, .val (.long y3), .second, .val (.long y4), .second, .val (.int y5), .val (.ref b1xn), .val (.long v12), .second, .val (.long v19), .second, .val (.long xcs), .second, .val (.long xce), .second, .val (.ref b15xn), .val (.long v67), .second, .val (.long v74), .second, .val (.int xe), .unset, .unset, .unset, .unset, .unset, .unset, .unset] [(.int (own_eq (own_ms y1 y2) (own_me y1 y2) (own_ms xcs xce) (own_me xcs xce)))])) _
    refine XS.istore X30.here hx rfl (hb hby at_106) rfl (l' := #[.val (.long y1), .second, .val (.long y2), .second, .val (.long y3), .second, .val (.long y4), .second, .val (.int y5), .val (.ref b1xn), .val (.long v12), .second, .val (.long v19), .second, .val (.long xcs), .second, .val (.long xce), .second, .val (.ref b15xn), .val (.long v67), .second, .val (.long v74), .second, .val (.int xe), .val (.int (own_eq (own_ms y1 y2) (own_me y1 y2) (own_ms xcs xce) (own_me xcs xce))), .unset, .unset, .unset, .unset, .unset, .unset]) rfl ?_
    exact k
  obtain ⟨cq32, kq32, q32a, q32b, q32c⟩ := isOf hZ eh30 F16
  obtain ⟨_, _, ⟨T32, L32, k32, n32⟩, -, X32, ⟨Lc32, hQ32, l32, y32, z32⟩, st32⟩ := X30.virtualBack hx (y := (⟨"com/example/clotho/clotho/model/Segment", "equals", "(Ljava/lang/Object;)Z"⟩ : MethodName)) (z := (⟨"com/example/clotho/clotho/model/Segment", "equals", "(Ljava/lang/Object;)Z"⟩ : MethodName)) hown (mvT hZ (hw _ (List.mem_of_getElem? (i := 27) rfl))) (mvT hZ (hw _ (List.mem_of_getElem? (i := 28) rfl))) (notFace_of_selects (args := #[]) (mvT hZ (hw _ (List.mem_of_getElem? (i := 30) rfl)))) (mvT hZ (hw _ (List.mem_of_getElem? (i := 30) rfl))) (mvT hZ (hw _ (List.mem_of_getElem? (i := 29) rfl))) (by decide) (backOf (W := 0) (own_rm6s l Z a0 hw [] b15xn b1xn (own_ms xcs xce) (own_me xcs xce) (own_ms y1 y2) (own_me y1 y2) T15.heap n0 Z15 F21 F17 F18 F22 F23) hZ (hw _ (List.mem_of_getElem? (i := 31) rfl)) (hw _ (List.mem_of_getElem? (i := 6) rfl)) (by decide) (by decide)) q32a q32c (g := (mkF m 112 #[.val (.long y1), .second, .val (.long y2), .second, .val (.long y3), .second, .val (.long y4), .second, .val (.int y5), .val (.ref b1xn), .val (.long v12), .second, .val (.long v19), .second, .val (.long xcs), .second, .val (.long xce), .second, .val (.ref b15xn), .val (.long v67), .second, .val (.long v74), .second, .val (.int xe), .val (.int v106), .unset, .unset, .unset, .unset, .unset, .unset] [(.ref b1xn), (.ref b15xn)])) rfl (by rw [hml]; rfl) (Steps.refl _) (argsL := [(.ref b1xn)]) (rest := []) (lenOf own_pd5 rfl) rfl (by show 2 * 0 + _ ≤ _; exact Nat.le_of_eq rfl) (hb hby at_112) (fun _ _ => ⟨rfl, eh30, (by decide : 2 + 0 ≤ _), (by decide : 4 + 0 ≤ _)⟩)
  dsimp only [Pt.U, Pt.locs, Pt.cells, Pt.slots] at X32 l32 y32 z32 st32 hQ32
  subst l32 y32 z32
  obtain ⟨rfl, N32q, eh32⟩ := hQ32
  have N32 := Fr.app N30 N32q
  obtain ⟨v115, hv115⟩ : ∃ w : Int32, w = (own_eq (own_ms xcs xce) (own_me xcs xce) (own_ms y1 y2) (own_me y1 y2)) := ⟨_, rfl⟩
  have pre33 : ∀ t, Steps p.tables e below (T32.setTop (mkF m 117 #[.val (.long y1), .second, .val (.long y2), .second, .val (.long y3), .second, .val (.long y4), .second, .val (.int y5), .val (.ref b1xn), .val (.long v12), .second, .val (.long v19), .second, .val (.long xcs), .second, .val (.long xce), .second, .val (.ref b15xn), .val (.long v67), .second, .val (.long v74), .second, .val (.int xe), .val (.int v106), .val (.int v115), .unset, .unset, .unset, .unset, .unset] [])) t → Steps p.tables e below (s₁.setTop (entryFrame m #[(.long y1), (.long y2), (.long y3), (.long y4), (.int y5)] maxLocals)) t := by
    intro t k
    rw [hv115] at k
    refine pre31 _ ?_
    show Steps p.tables e below (T30.setTop (mkF m 108 #[.val (.long y1), .second, .val (.long y2), .second, .val (.long y3), .second, .val (.long y4), .second, .val (.int y5), .val (.ref b1xn), .val (.long v12), .second, .val (.long v19), .second, .val (.long xcs), .second, .val (.long xce), .second, .val (.ref b15xn), .val (.long v67), .second, .val (.long v74), .second, .val (.int xe), .val (.int v106), .unset, .unset, .unset, .unset, .unset, .unset] [])) _
    refine XS.aload X30.here hx rfl (hb hby at_108) rfl rfl ?_
    show Steps p.tables e below (T30.setTop (mkF m 110 #[.val (.long y1), .second, .val (.long y2), .second, .val (.long y3), .second, .val (.long y4), .second, .val (.int y5), .val (.ref b1xn), .val (.long v12), .second, .val (.long v19), .second, .val (.long xcs), .second, .val (.long xce), .second, .val (.ref b15xn), .val (.long v67), .second, .val (.long v74), .second, .val (.int xe), .val (.int v106), .unset, .unset, .unset, .unset, .unset, .unset] [(.ref b15xn)])) _
    refine XS.aload X30.here hx rfl (hb hby at_110) rfl rfl ?_
    show Steps p.tables e below (T30.setTop (mkF m 112 #[.val (.long y1), .second, .val (.long y2), .second, .val (.long y3), .second, .val (.long y4), .second, .val (.int y5), .val (.ref b1xn), .val (.long v12), .second, .val (.long v19), .second, .val (.long xcs), .second, .val (.long xce), .second, .val (.ref b15xn), .val (.long v67), .second, .val (.long v74), .second, .val (.int xe), .val (.int v106), .unset, .unset, .unset, .unset, .unset, .unset] [(.ref b1xn), (.ref b15xn)])) _
    refine st32.trans ?_
    show Steps p.tables e below (T32.setTop (mkF m 115 #[.val (.long y1), .second, .val (.long y2), .second, .val (.long y3), .second, .val (.long y4), .second, .val (.int y5), .val (.ref b1xn), .val (.long v12), .second, .val (.long v19), .second, .val (.long xcs), .second, .val (.long xce), .second, .val (.ref b15xn), .val (.long v67), .second, .val (.long v74), .second, .val (.int xe), .val (.int v106), .unset, .unset, .unset, .unset, .unset, .unset] [(.int (own_eq (own_ms xcs xce) (own_me xcs xce) (own_ms y1 y2) (own_me y1 y2)))])) _
    refine XS.istore X32.here hx rfl (hb hby at_115) rfl (l' := #[.val (.long y1), .second, .val (.long y2), .second, .val (.long y3), .second, .val (.long y4), .second, .val (.int y5), .val (.ref b1xn), .val (.long v12), .second, .val (.long v19), .second, .val (.long xcs), .second, .val (.long xce), .second, .val (.ref b15xn), .val (.long v67), .second, .val (.long v74), .second, .val (.int xe), .val (.int v106), .val (.int (own_eq (own_ms xcs xce) (own_me xcs xce) (own_ms y1 y2) (own_me y1 y2))), .unset, .unset, .unset, .unset, .unset]) rfl ?_
    exact k
  obtain ⟨cq34, kq34, q34a, q34b, q34c⟩ := isOf hZ eh32 F21
  obtain ⟨_, _, ⟨T34, L34, k34, n34⟩, -, X34, ⟨Lc34, hQ34, l34, y34, z34⟩, st34⟩ := X32.virtualBack hx (y := (⟨"com/example/clotho/clotho/model/Segment", "equals", "(Ljava/lang/Object;)Z"⟩ : MethodName)) (z := (⟨"com/example/clotho/clotho/model/Segment", "equals", "(Ljava/lang/Object;)Z"⟩ : MethodName)) hown (mvT hZ (hw _ (List.mem_of_getElem? (i := 27) rfl))) (mvT hZ (hw _ (List.mem_of_getElem? (i := 28) rfl))) (notFace_of_selects (args := #[]) (mvT hZ (hw _ (List.mem_of_getElem? (i := 30) rfl)))) (mvT hZ (hw _ (List.mem_of_getElem? (i := 30) rfl))) (mvT hZ (hw _ (List.mem_of_getElem? (i := 29) rfl))) (by decide) (backOf (W := 0) (own_rm6s l Z a0 hw [] b1xn b1xn (own_ms y1 y2) (own_me y1 y2) (own_ms y1 y2) (own_me y1 y2) T15.heap n0 Z15 F21 F22 F23 F22 F23) hZ (hw _ (List.mem_of_getElem? (i := 31) rfl)) (hw _ (List.mem_of_getElem? (i := 6) rfl)) (by decide) (by decide)) q34a q34c (g := (mkF m 121 #[.val (.long y1), .second, .val (.long y2), .second, .val (.long y3), .second, .val (.long y4), .second, .val (.int y5), .val (.ref b1xn), .val (.long v12), .second, .val (.long v19), .second, .val (.long xcs), .second, .val (.long xce), .second, .val (.ref b15xn), .val (.long v67), .second, .val (.long v74), .second, .val (.int xe), .val (.int v106), .val (.int v115), .unset, .unset, .unset, .unset, .unset] [(.ref b1xn), (.ref b1xn)])) rfl (by rw [hml]; rfl) (Steps.refl _) (argsL := [(.ref b1xn)]) (rest := []) (lenOf own_pd5 rfl) rfl (by show 2 * 0 + _ ≤ _; exact Nat.le_of_eq rfl) (hb hby at_121) (fun _ _ => ⟨rfl, eh32, (by decide : 2 + 0 ≤ _), (by decide : 4 + 0 ≤ _)⟩)
  dsimp only [Pt.U, Pt.locs, Pt.cells, Pt.slots] at X34 l34 y34 z34 st34 hQ34
  subst l34 y34 z34
  obtain ⟨rfl, N34q, eh34⟩ := hQ34
  have N34 := Fr.app N32 N34q
  obtain ⟨v124, hv124⟩ : ∃ w : Int32, w = (own_eq (own_ms y1 y2) (own_me y1 y2) (own_ms y1 y2) (own_me y1 y2)) := ⟨_, rfl⟩
  have pre35 : ∀ t, Steps p.tables e below (T34.setTop (mkF m 126 #[.val (.long y1), .second, .val (.long y2), .second, .val (.long y3), .second, .val (.long y4), .second, .val (.int y5), .val (.ref b1xn), .val (.long v12), .second, .val (.long v19), .second, .val (.long xcs), .second, .val (.long xce), .second, .val (.ref b15xn), .val (.long v67), .second, .val (.long v74), .second, .val (.int xe), .val (.int v106), .val (.int v115), .val (.int v124), .unset, .unset, .unset, .unset] [])) t → Steps p.tables e below (s₁.setTop (entryFrame m #[(.long y1), (.long y2), (.long y3), (.long y4), (.int y5)] maxLocals)) t := by
    intro t k
    rw [hv124] at k
    refine pre33 _ ?_
    show Steps p.tables e below (T32.setTop (mkF m 117 #[.val (.long y1), .second, .val (.long y2), .second, .val (.long y3), .second, .val (.long y4), .second, .val (.int y5), .val (.ref b1xn), .val (.long v12), .second, .val (.long v19), .second, .val (.long xcs), .second, .val (.long xce), .second, .val (.ref b15xn), .val (.long v67), .second, .val (.long v74), .second, .val (.int xe), .val (.int v106), .val (.int v115), .unset, .unset, .unset, .unset, .unset] [])) _
    refine XS.aload X32.here hx rfl (hb hby at_117) rfl rfl ?_
    show Steps p.tables e below (T32.setTop (mkF m 119 #[.val (.long y1), .second, .val (.long y2), .second, .val (.long y3), .second, .val (.long y4), .second, .val (.int y5), .val (.ref b1xn), .val (.long v12), .second, .val (.long v19), .second, .val (.long xcs), .second, .val (.long xce), .second, .val (.ref b15xn), .val (.long v67), .second, .val (.long v74), .second, .val (.int xe), .val (.int v106), .val (.int v115), .unset, .unset, .unset, .unset, .unset] [(.ref b1xn)])) _
    refine XS.aload X32.here hx rfl (hb hby at_119) rfl rfl ?_
    show Steps p.tables e below (T32.setTop (mkF m 121 #[.val (.long y1), .second, .val (.long y2), .second, .val (.long y3), .second, .val (.long y4), .second, .val (.int y5), .val (.ref b1xn), .val (.long v12), .second, .val (.long v19), .second, .val (.long xcs), .second, .val (.long xce), .second, .val (.ref b15xn), .val (.long v67), .second, .val (.long v74), .second, .val (.int xe), .val (.int v106), .val (.int v115), .unset, .unset, .unset, .unset, .unset] [(.ref b1xn), (.ref b1xn)])) _
    refine st34.trans ?_
    show Steps p.tables e below (T34.setTop (mkF m 124 #[.val (.long y1), .second, .val (.long y2), .second, .val (.long y3), .second, .val (.long y4), .second, .val (.int y5), .val (.ref b1xn), .val (.long v12), .second, .val (.long v19), .second, .val (.long xcs), .second, .val (.long xce), .second, .val (.ref b15xn), .val (.long v67), .second, .val (.long v74), .second, .val (.int xe), .val (.int v106), .val (.int v115), .unset, .unset, .unset, .unset, .unset] [(.int (own_eq (own_ms y1 y2) (own_me y1 y2) (own_ms y1 y2) (own_me y1 y2)))])) _
    refine XS.istore X34.here hx rfl (hb hby at_124) rfl (l' := #[.val (.long y1), .second, .val (.long y2), .second, .val (.long y3), .second, .val (.long y4), .second, .val (.int y5), .val (.ref b1xn), .val (.long v12), .second, .val (.long v19), .second, .val (.long xcs), .second, .val (.long xce), .second, .val (.ref b15xn), .val (.long v67), .second, .val (.long v74), .second, .val (.int xe), .val (.int v106), .val (.int v115), .val (.int (own_eq (own_ms y1 y2) (own_me y1 y2) (own_ms y1 y2) (own_me y1 y2))), .unset, .unset, .unset, .unset]) rfl ?_
    exact k
  obtain ⟨cq36, kq36, q36a, q36b, q36c⟩ := isOf hZ eh34 F21
  obtain ⟨_, _, ⟨T36, L36, k36, n36⟩, -, X36, ⟨Lc36, hQ36, l36, y36, z36⟩, st36⟩ := X34.virtualBack hx (y := (⟨"com/example/clotho/clotho/model/Segment", "equals", "(Ljava/lang/Object;)Z"⟩ : MethodName)) (z := (⟨"com/example/clotho/clotho/model/Segment", "equals", "(Ljava/lang/Object;)Z"⟩ : MethodName)) hown (mvT hZ (hw _ (List.mem_of_getElem? (i := 27) rfl))) (mvT hZ (hw _ (List.mem_of_getElem? (i := 28) rfl))) (notFace_of_selects (args := #[]) (mvT hZ (hw _ (List.mem_of_getElem? (i := 30) rfl)))) (mvT hZ (hw _ (List.mem_of_getElem? (i := 30) rfl))) (mvT hZ (hw _ (List.mem_of_getElem? (i := 29) rfl))) (by decide) (backOf (W := 0) (own_rm6n l Z a0 hw [] b1xn T15.heap n0 Z15 ) hZ (hw _ (List.mem_of_getElem? (i := 31) rfl)) (hw _ (List.mem_of_getElem? (i := 6) rfl)) (by decide) (by decide)) q36a q36c (g := (mkF m 133 #[.val (.long y1), .second, .val (.long y2), .second, .val (.long y3), .second, .val (.long y4), .second, .val (.int y5), .val (.ref b1xn), .val (.long v12), .second, .val (.long v19), .second, .val (.long xcs), .second, .val (.long xce), .second, .val (.ref b15xn), .val (.long v67), .second, .val (.long v74), .second, .val (.int xe), .val (.int v106), .val (.int v115), .val (.int v124), .val .null, .unset, .unset, .unset] [.null, (.ref b1xn)])) rfl (by rw [hml]; rfl) (Steps.refl _) (argsL := [.null]) (rest := []) (lenOf own_pd5 rfl) rfl (by show 2 * 0 + _ ≤ _; exact Nat.le_of_eq rfl) (hb hby at_133) (fun _ _ => ⟨rfl, eh34, (by decide : 2 + 0 ≤ _), (by decide : 4 + 0 ≤ _)⟩)
  dsimp only [Pt.U, Pt.locs, Pt.cells, Pt.slots] at X36 l36 y36 z36 st36 hQ36
  subst l36 y36 z36
  obtain ⟨rfl, N36q, eh36⟩ := hQ36
  have N36 := Fr.app N34 N36q
  obtain ⟨_, _, ⟨T37, L37, k37, n37⟩, -, X37, ⟨Lc37, hQ37, l37, y37, z37⟩, st37⟩ := Jvm.LawKit.callS X36 hx (y := (⟨"java/lang/Long", "valueOf", "(J)Ljava/lang/Long;"⟩ : MethodName)) hown (mvT hZ (hw _ (List.mem_of_getElem? (i := 34) rfl))) (mvT hZ (hw _ (List.mem_of_getElem? (i := 35) rfl))) (mvT hZ (hw _ (List.mem_of_getElem? (i := 36) rfl))) (mvT hZ (hw _ (List.mem_of_getElem? (i := 37) rfl))) (by decide) (backOf (W := 0) (own_rm7 l Z a0 hw [] v12 xc xcl T15.heap n0 Z15 F19 F20 (hsz) (fun j hj => (hca j hj).imp fun o q => ⟨q.1, q.2.keep KK15⟩)) hZ (hw _ (List.mem_of_getElem? (i := 37) rfl)) (hw _ (List.mem_of_getElem? (i := 36) rfl)) (by decide) (by decide)) (g := (mkF m 140 #[.val (.long y1), .second, .val (.long y2), .second, .val (.long y3), .second, .val (.long y4), .second, .val (.int y5), .val (.ref b1xn), .val (.long v12), .second, .val (.long v19), .second, .val (.long xcs), .second, .val (.long xce), .second, .val (.ref b15xn), .val (.long v67), .second, .val (.long v74), .second, .val (.int xe), .val (.int v106), .val (.int v115), .val (.int v124), .val .null, .val (.int (0 : Int32)), .unset, .unset] [(.long v12)])) rfl (by rw [hml]; rfl) (argsL := [(.long v12)]) (rest := []) (lenOf own_pd6 rfl) rfl (by show 2 * 0 + _ ≤ _; exact Nat.le_of_eq rfl) (hb hby at_140) (fun _ _ => ⟨rfl, eh36, (by decide : 2 + 1 ≤ _), (by decide : 4 + 1 ≤ _)⟩)
  dsimp only [Pt.U, Pt.locs, Pt.cells, Pt.slots] at X37 l37 y37 z37 st37 hQ37
  subst l37 y37 z37
  obtain ⟨b37xo, rfl, N37q, K37q, F38⟩ := hQ37
  have K37 := K37q
  have KK37 : Keep h0 T37.heap [] := KK15.trans K37 all0
  have F39 : Sta Z T37.heap "java/lang/Long$LongCache" "cache" "[Ljava/lang/Long;" (.ref xc) := S_cache.ext (own_ext KK37)
  have F40 : Arr Z T37.heap xc xcl (.object "java/lang/Long") := R_xc.ext (own_ext KK37)
  have F41 : Exa Z T37.heap b1xn "com/example/clotho/clotho/model/Segment" := F21.keep K37
  have F42 : Fld Z T37.heap b1xn "com/example/clotho/clotho/model/Segment" "start" "J" (.long (own_ms y1 y2)) := F22.keep K37 nin0
  have F43 : Fld Z T37.heap b1xn "com/example/clotho/clotho/model/Segment" "end" "J" (.long (own_me y1 y2)) := F23.keep K37 nin0
  have F44 : Exa Z T37.heap b15xn "com/example/clotho/clotho/model/Segment" := F16.keep K37
  have F45 : Fld Z T37.heap b15xn "com/example/clotho/clotho/model/Segment" "start" "J" (.long (own_ms xcs xce)) := F17.keep K37 nin0
  have F46 : Fld Z T37.heap b15xn "com/example/clotho/clotho/model/Segment" "end" "J" (.long (own_me xcs xce)) := F18.keep K37 nin0
  have Z37 : n0 ≤ T37.heap.size := Nat.le_trans Z15 K37.1
  have N37 := Fr.app N36 N37q
  obtain ⟨cq47, kq47, q47a, q47b, q47c⟩ := isOf hZ rfl F41
  obtain ⟨_, _, ⟨T47, L47, k47, n47⟩, -, X47, ⟨Lc47, hQ47, l47, y47, z47⟩, st47⟩ := X37.virtualBack hx (y := (⟨"com/example/clotho/clotho/model/Segment", "equals", "(Ljava/lang/Object;)Z"⟩ : MethodName)) (z := (⟨"com/example/clotho/clotho/model/Segment", "equals", "(Ljava/lang/Object;)Z"⟩ : MethodName)) hown (mvT hZ (hw _ (List.mem_of_getElem? (i := 27) rfl))) (mvT hZ (hw _ (List.mem_of_getElem? (i := 28) rfl))) (notFace_of_selects (args := #[]) (mvT hZ (hw _ (List.mem_of_getElem? (i := 30) rfl)))) (mvT hZ (hw _ (List.mem_of_getElem? (i := 30) rfl))) (mvT hZ (hw _ (List.mem_of_getElem? (i := 29) rfl))) (by decide) (backOf (W := 0) (own_rm6l l Z a0 hw [] b1xn b37xo T37.heap n0 Z37 F38) hZ (hw _ (List.mem_of_getElem? (i := 31) rfl)) (hw _ (List.mem_of_getElem? (i := 6) rfl)) (by decide) (by decide)) q47a q47c (g := (mkF m 149 #[.val (.long y1), .second, .val (.long y2), .second, .val (.long y3), .second, .val (.long y4), .second, .val (.int y5), .val (.ref b1xn), .val (.long v12), .second, .val (.long v19), .second, .val (.long xcs), .second, .val (.long xce), .second, .val (.ref b15xn), .val (.long v67), .second, .val (.long v74), .second, .val (.int xe), .val (.int v106), .val (.int v115), .val (.int v124), .val .null, .val (.int (0 : Int32)), .val (.ref b37xo), .unset] [(.ref b37xo), (.ref b1xn)])) rfl (by rw [hml]; rfl) (Steps.refl _) (argsL := [(.ref b37xo)]) (rest := []) (lenOf own_pd5 rfl) rfl (by show 2 * 0 + _ ≤ _; exact Nat.le_of_eq rfl) (hb hby at_149) (fun _ _ => ⟨rfl, rfl, (by decide : 3 + 0 ≤ _), (by decide : 5 + 0 ≤ _)⟩)
  dsimp only [Pt.U, Pt.locs, Pt.cells, Pt.slots] at X47 l47 y47 z47 st47 hQ47
  subst l47 y47 z47
  obtain ⟨rfl, N47q, eh47⟩ := hQ47
  have N47 := Fr.app N37 N47q
  have hd48 : v106 = xe := (by rw [hv106, hxe, hv12, hv19, hv67, hv74]; rfl)
  have hd49 : v115 = xe := (by rw [hv115, own_eq_comm, hxe, hv12, hv19, hv67, hv74]; rfl)
  have hd50 : ¬ (v124 = (0 : Int32)) := (by rw [hv124, own_eq_self]; decide)
  obtain ⟨fs, hr, hrun, hended, hW, hsame⟩ := X47.leave (v := some (.int (1 : Int32))) (fun h => by rw [Bd.returns] at h; cases h)
  refine ⟨_, _, pre35 _ ?_, hrun, hended, _, _, rfl, ?_, ⟨_, rfl⟩, hW, hsame.mono (by decide) (by decide)⟩
  · show Steps p.tables e below (T34.setTop (mkF m 126 #[.val (.long y1), .second, .val (.long y2), .second, .val (.long y3), .second, .val (.long y4), .second, .val (.int y5), .val (.ref b1xn), .val (.long v12), .second, .val (.long v19), .second, .val (.long xcs), .second, .val (.long xce), .second, .val (.ref b15xn), .val (.long v67), .second, .val (.long v74), .second, .val (.int xe), .val (.int v106), .val (.int v115), .val (.int v124), .unset, .unset, .unset, .unset] [])) _
    refine XS.aconstNull X34.here hx rfl (hb hby at_126) ?_
    show Steps p.tables e below (T34.setTop (mkF m 127 #[.val (.long y1), .second, .val (.long y2), .second, .val (.long y3), .second, .val (.long y4), .second, .val (.int y5), .val (.ref b1xn), .val (.long v12), .second, .val (.long v19), .second, .val (.long xcs), .second, .val (.long xce), .second, .val (.ref b15xn), .val (.long v67), .second, .val (.long v74), .second, .val (.int xe), .val (.int v106), .val (.int v115), .val (.int v124), .unset, .unset, .unset, .unset] [.null])) _
    refine XS.astore X34.here hx rfl (hb hby at_127) rfl rfl (l' := #[.val (.long y1), .second, .val (.long y2), .second, .val (.long y3), .second, .val (.long y4), .second, .val (.int y5), .val (.ref b1xn), .val (.long v12), .second, .val (.long v19), .second, .val (.long xcs), .second, .val (.long xce), .second, .val (.ref b15xn), .val (.long v67), .second, .val (.long v74), .second, .val (.int xe), .val (.int v106), .val (.int v115), .val (.int v124), .val .null, .unset, .unset, .unset]) rfl ?_
    show Steps p.tables e below (T34.setTop (mkF m 129 #[.val (.long y1), .second, .val (.long y2), .second, .val (.long y3), .second, .val (.long y4), .second, .val (.int y5), .val (.ref b1xn), .val (.long v12), .second, .val (.long v19), .second, .val (.long xcs), .second, .val (.long xce), .second, .val (.ref b15xn), .val (.long v67), .second, .val (.long v74), .second, .val (.int xe), .val (.int v106), .val (.int v115), .val (.int v124), .val .null, .unset, .unset, .unset] [])) _
    refine XS.aload X34.here hx rfl (hb hby at_129) rfl rfl ?_
    show Steps p.tables e below (T34.setTop (mkF m 131 #[.val (.long y1), .second, .val (.long y2), .second, .val (.long y3), .second, .val (.long y4), .second, .val (.int y5), .val (.ref b1xn), .val (.long v12), .second, .val (.long v19), .second, .val (.long xcs), .second, .val (.long xce), .second, .val (.ref b15xn), .val (.long v67), .second, .val (.long v74), .second, .val (.int xe), .val (.int v106), .val (.int v115), .val (.int v124), .val .null, .unset, .unset, .unset] [(.ref b1xn)])) _
    refine XS.aload X34.here hx rfl (hb hby at_131) rfl rfl ?_
    show Steps p.tables e below (T34.setTop (mkF m 133 #[.val (.long y1), .second, .val (.long y2), .second, .val (.long y3), .second, .val (.long y4), .second, .val (.int y5), .val (.ref b1xn), .val (.long v12), .second, .val (.long v19), .second, .val (.long xcs), .second, .val (.long xce), .second, .val (.ref b15xn), .val (.long v67), .second, .val (.long v74), .second, .val (.int xe), .val (.int v106), .val (.int v115), .val (.int v124), .val .null, .unset, .unset, .unset] [.null, (.ref b1xn)])) _
    refine st36.trans ?_
    show Steps p.tables e below (T36.setTop (mkF m 136 #[.val (.long y1), .second, .val (.long y2), .second, .val (.long y3), .second, .val (.long y4), .second, .val (.int y5), .val (.ref b1xn), .val (.long v12), .second, .val (.long v19), .second, .val (.long xcs), .second, .val (.long xce), .second, .val (.ref b15xn), .val (.long v67), .second, .val (.long v74), .second, .val (.int xe), .val (.int v106), .val (.int v115), .val (.int v124), .val .null, .unset, .unset, .unset] [(.int (0 : Int32))])) _
    refine XS.istore X36.here hx rfl (hb hby at_136) rfl (l' := #[.val (.long y1), .second, .val (.long y2), .second, .val (.long y3), .second, .val (.long y4), .second, .val (.int y5), .val (.ref b1xn), .val (.long v12), .second, .val (.long v19), .second, .val (.long xcs), .second, .val (.long xce), .second, .val (.ref b15xn), .val (.long v67), .second, .val (.long v74), .second, .val (.int xe), .val (.int v106), .val (.int v115), .val (.int v124), .val .null, .val (.int (0 : Int32)), .unset, .unset]) rfl ?_
    show Steps p.tables e below (T36.setTop (mkF m 138 #[.val (.long y1), .second, .val (.long y2), .second, .val (.long y3), .second, .val (.long y4), .second, .val (.int y5), .val (.ref b1xn), .val (.long v12), .second, .val (.long v19), .second, .val (.long xcs), .second, .val (.long xce), .second, .val (.ref b15xn), .val (.long v67), .second, .val (.long v74), .second, .val (.int xe), .val (.int v106), .val (.int v115), .val (.int v124), .val .null, .val (.int (0 : Int32)), .unset, .unset] [])) _
    refine XS.lload X36.here hx rfl (hb hby at_138) rfl ?_
    show Steps p.tables e below (T36.setTop (mkF m 140 #[.val (.long y1), .second, .val (.long y2), .second, .val (.long y3), .second, .val (.long y4), .second, .val (.int y5), .val (.ref b1xn), .val (.long v12), .second, .val (.long v19), .second, .val (.long xcs), .second, .val (.long xce), .second, .val (.ref b15xn), .val (.long v67), .second, .val (.long v74), .second, .val (.int xe), .val (.int v106), .val (.int v115), .val (.int v124), .val .null, .val (.int (0 : Int32)), .unset, .unset] [(.long v12)])) _
    refine st37 _ ?_
    show Steps p.tables e below (T37.setTop (mkF m 143 #[.val (.long y1), .second, .val (.long y2), .second, .val (.long y3), .second, .val (.long y4), .second, .val (.int y5), .val (.ref b1xn), .val (.long v12), .second, .val (.long v19), .second, .val (.long xcs), .second, .val (.long xce), .second, .val (.ref b15xn), .val (.long v67), .second, .val (.long v74), .second, .val (.int xe), .val (.int v106), .val (.int v115), .val (.int v124), .val .null, .val (.int (0 : Int32)), .unset, .unset] [(.ref b37xo)])) _
    refine XS.astore X37.here hx rfl (hb hby at_143) rfl rfl (l' := #[.val (.long y1), .second, .val (.long y2), .second, .val (.long y3), .second, .val (.long y4), .second, .val (.int y5), .val (.ref b1xn), .val (.long v12), .second, .val (.long v19), .second, .val (.long xcs), .second, .val (.long xce), .second, .val (.ref b15xn), .val (.long v67), .second, .val (.long v74), .second, .val (.int xe), .val (.int v106), .val (.int v115), .val (.int v124), .val .null, .val (.int (0 : Int32)), .val (.ref b37xo), .unset]) rfl ?_
    show Steps p.tables e below (T37.setTop (mkF m 145 #[.val (.long y1), .second, .val (.long y2), .second, .val (.long y3), .second, .val (.long y4), .second, .val (.int y5), .val (.ref b1xn), .val (.long v12), .second, .val (.long v19), .second, .val (.long xcs), .second, .val (.long xce), .second, .val (.ref b15xn), .val (.long v67), .second, .val (.long v74), .second, .val (.int xe), .val (.int v106), .val (.int v115), .val (.int v124), .val .null, .val (.int (0 : Int32)), .val (.ref b37xo), .unset] [])) _
    refine XS.aload X37.here hx rfl (hb hby at_145) rfl rfl ?_
    show Steps p.tables e below (T37.setTop (mkF m 147 #[.val (.long y1), .second, .val (.long y2), .second, .val (.long y3), .second, .val (.long y4), .second, .val (.int y5), .val (.ref b1xn), .val (.long v12), .second, .val (.long v19), .second, .val (.long xcs), .second, .val (.long xce), .second, .val (.ref b15xn), .val (.long v67), .second, .val (.long v74), .second, .val (.int xe), .val (.int v106), .val (.int v115), .val (.int v124), .val .null, .val (.int (0 : Int32)), .val (.ref b37xo), .unset] [(.ref b1xn)])) _
    refine XS.aload X37.here hx rfl (hb hby at_147) rfl rfl ?_
    show Steps p.tables e below (T37.setTop (mkF m 149 #[.val (.long y1), .second, .val (.long y2), .second, .val (.long y3), .second, .val (.long y4), .second, .val (.int y5), .val (.ref b1xn), .val (.long v12), .second, .val (.long v19), .second, .val (.long xcs), .second, .val (.long xce), .second, .val (.ref b15xn), .val (.long v67), .second, .val (.long v74), .second, .val (.int xe), .val (.int v106), .val (.int v115), .val (.int v124), .val .null, .val (.int (0 : Int32)), .val (.ref b37xo), .unset] [(.ref b37xo), (.ref b1xn)])) _
    refine st47.trans ?_
    show Steps p.tables e below (T47.setTop (mkF m 152 #[.val (.long y1), .second, .val (.long y2), .second, .val (.long y3), .second, .val (.long y4), .second, .val (.int y5), .val (.ref b1xn), .val (.long v12), .second, .val (.long v19), .second, .val (.long xcs), .second, .val (.long xce), .second, .val (.ref b15xn), .val (.long v67), .second, .val (.long v74), .second, .val (.int xe), .val (.int v106), .val (.int v115), .val (.int v124), .val .null, .val (.int (0 : Int32)), .val (.ref b37xo), .unset] [(.int (0 : Int32))])) _
    refine XS.istore X47.here hx rfl (hb hby at_152) rfl (l' := #[.val (.long y1), .second, .val (.long y2), .second, .val (.long y3), .second, .val (.long y4), .second, .val (.int y5), .val (.ref b1xn), .val (.long v12), .second, .val (.long v19), .second, .val (.long xcs), .second, .val (.long xce), .second, .val (.ref b15xn), .val (.long v67), .second, .val (.long v74), .second, .val (.int xe), .val (.int v106), .val (.int v115), .val (.int v124), .val .null, .val (.int (0 : Int32)), .val (.ref b37xo), .val (.int (0 : Int32))]) rfl ?_
    show Steps p.tables e below (T47.setTop (mkF m 154 #[.val (.long y1), .second, .val (.long y2), .second, .val (.long y3), .second, .val (.long y4), .second, .val (.int y5), .val (.ref b1xn), .val (.long v12), .second, .val (.long v19), .second, .val (.long xcs), .second, .val (.long xce), .second, .val (.ref b15xn), .val (.long v67), .second, .val (.long v74), .second, .val (.int xe), .val (.int v106), .val (.int v115), .val (.int v124), .val .null, .val (.int (0 : Int32)), .val (.ref b37xo), .val (.int (0 : Int32))] [])) _
    refine XS.iload X47.here hx rfl (hb hby at_154) rfl ?_
    show Steps p.tables e below (T47.setTop (mkF m 156 #[.val (.long y1), .second, .val (.long y2), .second, .val (.long y3), .second, .val (.long y4), .second, .val (.int y5), .val (.ref b1xn), .val (.long v12), .second, .val (.long v19), .second, .val (.long xcs), .second, .val (.long xce), .second, .val (.ref b15xn), .val (.long v67), .second, .val (.long v74), .second, .val (.int xe), .val (.int v106), .val (.int v115), .val (.int v124), .val .null, .val (.int (0 : Int32)), .val (.ref b37xo), .val (.int (0 : Int32))] [(.int v106)])) _
    refine XS.iload X47.here hx rfl (hb hby at_156) rfl ?_
    show Steps p.tables e below (T47.setTop (mkF m 158 #[.val (.long y1), .second, .val (.long y2), .second, .val (.long y3), .second, .val (.long y4), .second, .val (.int y5), .val (.ref b1xn), .val (.long v12), .second, .val (.long v19), .second, .val (.long xcs), .second, .val (.long xce), .second, .val (.ref b15xn), .val (.long v67), .second, .val (.long v74), .second, .val (.int xe), .val (.int v106), .val (.int v115), .val (.int v124), .val .null, .val (.int (0 : Int32)), .val (.ref b37xo), .val (.int (0 : Int32))] [(.int xe), (.int v106)])) _
    refine XS.icmpNo X47.here hx rfl (hb hby at_158) rfl (teq hd48).2 ?_
    show Steps p.tables e below (T47.setTop (mkF m 161 #[.val (.long y1), .second, .val (.long y2), .second, .val (.long y3), .second, .val (.long y4), .second, .val (.int y5), .val (.ref b1xn), .val (.long v12), .second, .val (.long v19), .second, .val (.long xcs), .second, .val (.long xce), .second, .val (.ref b15xn), .val (.long v67), .second, .val (.long v74), .second, .val (.int xe), .val (.int v106), .val (.int v115), .val (.int v124), .val .null, .val (.int (0 : Int32)), .val (.ref b37xo), .val (.int (0 : Int32))] [])) _
    refine XS.iload X47.here hx rfl (hb hby at_161) rfl ?_
    show Steps p.tables e below (T47.setTop (mkF m 163 #[.val (.long y1), .second, .val (.long y2), .second, .val (.long y3), .second, .val (.long y4), .second, .val (.int y5), .val (.ref b1xn), .val (.long v12), .second, .val (.long v19), .second, .val (.long xcs), .second, .val (.long xce), .second, .val (.ref b15xn), .val (.long v67), .second, .val (.long v74), .second, .val (.int xe), .val (.int v106), .val (.int v115), .val (.int v124), .val .null, .val (.int (0 : Int32)), .val (.ref b37xo), .val (.int (0 : Int32))] [(.int v115)])) _
    refine XS.iload X47.here hx rfl (hb hby at_163) rfl ?_
    show Steps p.tables e below (T47.setTop (mkF m 165 #[.val (.long y1), .second, .val (.long y2), .second, .val (.long y3), .second, .val (.long y4), .second, .val (.int y5), .val (.ref b1xn), .val (.long v12), .second, .val (.long v19), .second, .val (.long xcs), .second, .val (.long xce), .second, .val (.ref b15xn), .val (.long v67), .second, .val (.long v74), .second, .val (.int xe), .val (.int v106), .val (.int v115), .val (.int v124), .val .null, .val (.int (0 : Int32)), .val (.ref b37xo), .val (.int (0 : Int32))] [(.int xe), (.int v115)])) _
    refine XS.icmpNo X47.here hx rfl (hb hby at_165) rfl (teq hd49).2 ?_
    show Steps p.tables e below (T47.setTop (mkF m 168 #[.val (.long y1), .second, .val (.long y2), .second, .val (.long y3), .second, .val (.long y4), .second, .val (.int y5), .val (.ref b1xn), .val (.long v12), .second, .val (.long v19), .second, .val (.long xcs), .second, .val (.long xce), .second, .val (.ref b15xn), .val (.long v67), .second, .val (.long v74), .second, .val (.int xe), .val (.int v106), .val (.int v115), .val (.int v124), .val .null, .val (.int (0 : Int32)), .val (.ref b37xo), .val (.int (0 : Int32))] [])) _
    refine XS.iload X47.here hx rfl (hb hby at_168) rfl ?_
    show Steps p.tables e below (T47.setTop (mkF m 170 #[.val (.long y1), .second, .val (.long y2), .second, .val (.long y3), .second, .val (.long y4), .second, .val (.int y5), .val (.ref b1xn), .val (.long v12), .second, .val (.long v19), .second, .val (.long xcs), .second, .val (.long xce), .second, .val (.ref b15xn), .val (.long v67), .second, .val (.long v74), .second, .val (.int xe), .val (.int v106), .val (.int v115), .val (.int v124), .val .null, .val (.int (0 : Int32)), .val (.ref b37xo), .val (.int (0 : Int32))] [(.int v124)])) _
    refine XS.ifNo X47.here hx rfl (hb hby at_170) rfl ((if0 _ _).trans (feq hd50).1) ?_
    show Steps p.tables e below (T47.setTop (mkF m 173 #[.val (.long y1), .second, .val (.long y2), .second, .val (.long y3), .second, .val (.long y4), .second, .val (.int y5), .val (.ref b1xn), .val (.long v12), .second, .val (.long v19), .second, .val (.long xcs), .second, .val (.long xce), .second, .val (.ref b15xn), .val (.long v67), .second, .val (.long v74), .second, .val (.int xe), .val (.int v106), .val (.int v115), .val (.int v124), .val .null, .val (.int (0 : Int32)), .val (.ref b37xo), .val (.int (0 : Int32))] [])) _
    refine XS.iload X47.here hx rfl (hb hby at_173) rfl ?_
    show Steps p.tables e below (T47.setTop (mkF m 175 #[.val (.long y1), .second, .val (.long y2), .second, .val (.long y3), .second, .val (.long y4), .second, .val (.int y5), .val (.ref b1xn), .val (.long v12), .second, .val (.long v19), .second, .val (.long xcs), .second, .val (.long xce), .second, .val (.ref b15xn), .val (.long v67), .second, .val (.long v74), .second, .val (.int xe), .val (.int v106), .val (.int v115), .val (.int v124), .val .null, .val (.int (0 : Int32)), .val (.ref b37xo), .val (.int (0 : Int32))] [(.int (0 : Int32))])) _
    refine XS.ifNo X47.here hx rfl (hb hby at_175) rfl ((if0 _ _).trans (teq rfl).2) ?_
    show Steps p.tables e below (T47.setTop (mkF m 178 #[.val (.long y1), .second, .val (.long y2), .second, .val (.long y3), .second, .val (.long y4), .second, .val (.int y5), .val (.ref b1xn), .val (.long v12), .second, .val (.long v19), .second, .val (.long xcs), .second, .val (.long xce), .second, .val (.ref b15xn), .val (.long v67), .second, .val (.long v74), .second, .val (.int xe), .val (.int v106), .val (.int v115), .val (.int v124), .val .null, .val (.int (0 : Int32)), .val (.ref b37xo), .val (.int (0 : Int32))] [])) _
    refine XS.iload X47.here hx rfl (hb hby at_178) rfl ?_
    show Steps p.tables e below (T47.setTop (mkF m 180 #[.val (.long y1), .second, .val (.long y2), .second, .val (.long y3), .second, .val (.long y4), .second, .val (.int y5), .val (.ref b1xn), .val (.long v12), .second, .val (.long v19), .second, .val (.long xcs), .second, .val (.long xce), .second, .val (.ref b15xn), .val (.long v67), .second, .val (.long v74), .second, .val (.int xe), .val (.int v106), .val (.int v115), .val (.int v124), .val .null, .val (.int (0 : Int32)), .val (.ref b37xo), .val (.int (0 : Int32))] [(.int (0 : Int32))])) _
    refine XS.ifNo X47.here hx rfl (hb hby at_180) rfl ((if0 _ _).trans (teq rfl).2) ?_
    show Steps p.tables e below (T47.setTop (mkF m 183 #[.val (.long y1), .second, .val (.long y2), .second, .val (.long y3), .second, .val (.long y4), .second, .val (.int y5), .val (.ref b1xn), .val (.long v12), .second, .val (.long v19), .second, .val (.long xcs), .second, .val (.long xce), .second, .val (.ref b15xn), .val (.long v67), .second, .val (.long v74), .second, .val (.int xe), .val (.int v106), .val (.int v115), .val (.int v124), .val .null, .val (.int (0 : Int32)), .val (.ref b37xo), .val (.int (0 : Int32))] [])) _
    refine XS.iconst X47.here hx rfl (hb hby at_183) ?_
    show Steps p.tables e below (T47.setTop (mkF m 184 #[.val (.long y1), .second, .val (.long y2), .second, .val (.long y3), .second, .val (.long y4), .second, .val (.int y5), .val (.ref b1xn), .val (.long v12), .second, .val (.long v19), .second, .val (.long xcs), .second, .val (.long xce), .second, .val (.ref b15xn), .val (.long v67), .second, .val (.long v74), .second, .val (.int xe), .val (.int v106), .val (.int v115), .val (.int v124), .val .null, .val (.int (0 : Int32)), .val (.ref b37xo), .val (.int (0 : Int32))] [(.int (1 : Int32))])) _
    refine XS.goto X47.here hx rfl (pc0 := 184) (pc' := 188) rfl (hb hby at_184) (by decide) (by decide) ?_
    show Steps p.tables e below (T47.setTop (mkF m 188 #[.val (.long y1), .second, .val (.long y2), .second, .val (.long y3), .second, .val (.long y4), .second, .val (.int y5), .val (.ref b1xn), .val (.long v12), .second, .val (.long v19), .second, .val (.long xcs), .second, .val (.long xce), .second, .val (.ref b15xn), .val (.long v67), .second, .val (.long v74), .second, .val (.int xe), .val (.int v106), .val (.int v115), .val (.int v124), .val .null, .val (.int (0 : Int32)), .val (.ref b37xo), .val (.int (0 : Int32))] [(.int (1 : Int32))])) _
    exact retN X47 hx (t := .boolean) Bd.returns (by simp) (hb hby at_188) hr
  · show own_Q0 Z y1 y2 y3 y4 y5 xc xcl h0 n0 _ T47.heap _
    rw [eh47]
    exact ⟨rfl, N47⟩
set_option maxRecDepth 65536 in
set_option maxHeartbeats 40000000 in
theorem own_comes_1 {Post : Tables → Env → Array Value → State → Outcome → State → Prop} (hpost : ∀ tb e args s v u, (limb_1_1.after args s (.returned v) u = true ∧ limb_1_2.after args s (.returned v) u = true ∧ True) → FrameEnd s (.returned v) u (Jvm.fieldLocs frame_1_writes args s ++ Jvm.arrayLocs frame_1_arrays args s ++ Jvm.staticLocs frame_1_statics s) 16 128 → Post tb e args s (.returned v) u) :
    ArmFor flags0 classFile x code maxLocals ret World_1 tables_1 room_1 Calls_1 rest_1 Pre_1 Post := by
  intro l hfl _ _ p e ha hc hk s m args below hf hA hF happ hP
  obtain ⟨hcalls, hrest, hpre⟩ := hP
  obtain ⟨-, -, -, hnamed, -, -, -, hat⟩ := (Spec.applies_iff hf).mp happ
  obtain ⟨hg, hn⟩ := and_e (Cond.before_iff.mp (show (Jvm.Cond.and given_1 narrow_1).before args s = true from hpre))
  obtain ⟨gg1, gg2⟩ := and_e hg
  obtain ⟨gg3, gg4⟩ := and_e gg2
  obtain ⟨gg5, gg6⟩ := and_e gg4
  obtain ⟨gg7, gg8⟩ := and_e gg6
  obtain ⟨gg9, gg10⟩ := and_e gg8
  obtain ⟨w0, w1, w2, w3, w4, rfl⟩ : ∃ w0 w1 w2 w3 w4 : Value, args = #[w0, w1, w2, w3, w4] := by
    have hs : args.size = 5 := by simpa [Cond.value, given_1] using gg1
    obtain ⟨L⟩ := args
    match L, hs with
    | [w0, w1, w2, w3, w4], _ => exact ⟨w0, w1, w2, w3, w4, rfl⟩
  have hw := fun d (hd : d ∈ tables_1) => atoms_spec (ws := Jvm.Cond.code x code maxLocals ret :: tables_1) hat d (List.mem_cons_of_mem _ hd)
  have hfit : Fit s := fun {y c} hc i hi => by
    obtain ⟨ha, rfl⟩ := Array.getElem?_eq_some_iff.mp hc
    have q := List.all_eq_true.mp ((Array.all_eq_true_iff_forall_mem.mp hF) _ (Array.getElem_mem ha)) i (List.mem_range.mpr hi)
    simpa [Array.getElem?_eq_getElem hi] using q
  obtain ⟨hsets, hown0⟩ := atoms_of _ (rest_1_c_eq ▸ (show rest_1_c.before _ s = true from hrest))
  have hr0 := Cond.before_iff.mp hown0
  obtain ⟨i0, ei0⟩ := isL_v gg3
  obtain rfl : w0 = (.long i0) := Option.some.inj ei0
  obtain ⟨i1, ei1⟩ := isL_v gg5
  obtain rfl : w1 = (.long i1) := Option.some.inj ei1
  obtain ⟨i2, ei2⟩ := isL_v gg7
  obtain rfl : w2 = (.long i2) := Option.some.inj ei2
  obtain ⟨i3, ei3⟩ := isL_v gg9
  obtain rfl : w3 = (.long i3) := Option.some.inj ei3
  obtain ⟨i4, ei4⟩ := is_v gg10
  obtain rfl : w4 = (.int i4) := Option.some.inj ei4
  obtain ⟨xc, evc⟩ := arr_v (Cond.before_iff.mp (hsets _ (List.mem_of_getElem? (i := 2) rfl)))
  have Sc := Sta.start evc (Or.inl (hsets _ (List.mem_of_getElem? (i := 1) rfl)))
  obtain ⟨xcl, Rc⟩ := Arr.start evc (Cond.before_iff.mp (hsets _ (List.mem_of_getElem? (i := 2) rfl)))
  have szc := own_len evc Rc (Cond.before_iff.mp (hsets _ (List.mem_of_getElem? (i := 4) rfl))) (by decide)
  obtain ⟨n, o, h1, h2, h3, _, L, rfl, ⟨rfl, N⟩, hq⟩ := own_rm0 l s _ hw tables_1 i0 i1 i2 i3 i4 xc xcl s.heap s.heap.size (Nat.le_refl _) Sc Rc szc (fun j hj => own_cache evc Rc (Cond.before_iff.mp (hsets _ (List.mem_of_getElem? (i := 5) rfl))) hj) p e ha hc hk s m _ below hf ((Spec.applies_iff_loose hf).mp happ).1 ⟨rfl, State.Warmed39.refl s, rfl⟩ trivial
  refine ⟨n, _, h1, h2, h3, hpost _ _ _ _ _ _ ⟨Cond.after_iff.mpr rfl, Cond.after_iff.mpr (eq_i res_at (Term.int_eval (1)) rfl), trivial⟩ ⟨hq.1, hq.2.1, (hq.2.2.sift fun y hy => Or.inr (N y hy)).mono (by decide) (by decide)⟩⟩
theorem main_1_1 : Claimed_1_1 := own_comes_1 fun _ _ _ _ _ _ h hF => ⟨h.1, hF⟩
theorem main_1_2 : Claimed_1_2 := own_comes_1 fun _ _ _ _ _ _ h hF => ⟨h.2.1, hF⟩
end Jvm.Pilot.@@N@@
namespace Jvm.Pilot.@@N@@
open Jvm Jvm.ClassFile Sem Op Lib Jvm.Free Jvm.Stand Jvm.Pilot.@@N@@.Jvm.D
/-! MADE BY PROGRAM (witnessworld.py) out of the Statement's table words and the real class files: 16 classes; the members and pool entries that the words name. The judged class is class 1, her method 2. -/
namespace start1
open Jvm.ClassFile
def u (s : String) : CpInfo := .utf8 (stringToUtf16 s)
/-- a pool by its gaps: so many unusable entries, then the entry; so many at the end -/
def gap : Nat → List CpInfo → List CpInfo
  | 0, r => r
  | n + 1, r => .unusable :: gap n r
def poolList (es : List (Nat × CpInfo)) (last : Nat) : List CpInfo := es.foldr (fun e r => gap e.1 (e.2 :: r)) (gap last [])
def pool (es : List (Nat × CpInfo)) (last : Nat) : Array CpInfo := ⟨poolList es last⟩
def fileOf (pool : Array CpInfo) (this : Nat) (attrs : Array Attribute := #[]) (ms : Array MethodInfo := #[]) (fl : Nat := 33) (sup : Nat := 0) (ifs : Array Nat := #[]) (fds : Array FieldInfo := #[]) : ClassFile where
  minorVersion := 0
  majorVersion := 65
  constantPool := pool
  accessFlags := fl
  thisClass := this
  superClass := sup
  interfaces := ifs
  fields := fds
  methods := ms
  attributes := attrs
def plain (name : String) (sup : Option ClassId) : Class where
  name := name
  kind := .ordinary
  loader := none
  accessFlags := 33
  super := sup
  interfaces := #[]
  cf := none
  fields := #[]
  methods := #[]
  instanceTypes := #[]
  staticTypes := #[]
  resolved := #[]
  callSites := []
  init := .initialized
  statics := none
  mirror := none

def pool0 : Array CpInfo := pool [(5, u "<init>"), (0, u "()V"), (1, .class_ 10), (1, u "java/lang/Object")] 113

def k0c0 : Code := { maxStack := 0, maxLocals := 1, code := object_method_1_code, exceptionTable := #[], attributes := #[] }
def k0m0 : Method := { name := "<init>", desc := "()V", sig := { parameters := [], returnType := none }, accessFlags := 1, code := some k0c0 }
/-- java/lang/Object -/
def k0 : Class := { plain "java/lang/Object" none with
  accessFlags := 33
  interfaces := #[]
  cf := some (fileOf pool0 8 #[] #[{ accessFlags := 1, nameIndex := 5, descriptorIndex := 6, attributes := #[] }] 33 0 #[] #[])
  fields := #[]
  methods := #[k0m0]
  instanceTypes := #[]
  staticTypes := #[]
  resolved := Array.replicate 124 none
  statics := none }

def pool1 : Array CpInfo := pool [(2, .class_ 4), (1, u "java/lang/Object"), (0, u "<init>"), (0, u "()V"), (0, .class_ 8), (0, u "com/example/clotho/clotho/model/Segment"), (0, .methodref 7 10), (0, .nameAndType 5 11), (0, u "(JJ)V"), (0, .class_ 13), (0, u "java/lang/Long"), (0, .long 9223372036854775807), (1, .methodref 17 18), (0, .class_ 19), (0, .nameAndType 20 21), (0, u "com/example/clotho/clotho/model/SegmentEqualsPinLaw"), (0, u "make"), (0, u "(JJ)Lcom/example/clotho/clotho/model/Segment;"), (0, .methodref 7 23), (0, .nameAndType 24 25), (0, u "getStart"), (0, u "()J"), (0, .methodref 7 27), (0, .nameAndType 28 25), (0, u "getEnd"), (0, .methodref 7 30), (0, .nameAndType 31 32), (0, u "equals"), (0, u "(Ljava/lang/Object;)Z"), (0, .methodref 12 34), (0, .nameAndType 35 36), (0, u "valueOf"), (0, u "(J)Ljava/lang/Long;"), (3, u "law"), (0, u "(JJJJI)Z")] 2

def k1m0 : Method := { name := "<init>", desc := "()V", sig := { parameters := [], returnType := none }, accessFlags := 1, code := none }
def k1c1 : Code := { maxStack := 8, maxLocals := 4, code := method_2_code, exceptionTable := #[], attributes := #[] }
def k1m1 : Method := { name := "make", desc := "(JJ)Lcom/example/clotho/clotho/model/Segment;", sig := { parameters := [.long, .long], returnType := some (.object "com/example/clotho/clotho/model/Segment") }, accessFlags := 10, code := some k1c1 }
def k1c2 : Code := { maxStack := 4, maxLocals := 31, code := code, exceptionTable := #[], attributes := #[] }
def k1m2 : Method := { name := "law", desc := "(JJJJI)Z", sig := { parameters := [.long, .long, .long, .long, .int], returnType := some .boolean }, accessFlags := 9, code := some k1c2 }
/-- com/example/clotho/clotho/model/SegmentEqualsPinLaw -/
def k1 : Class := { plain "com/example/clotho/clotho/model/SegmentEqualsPinLaw" (some 0) with
  accessFlags := 49
  interfaces := #[]
  cf := some (fileOf pool1 17 #[] #[{ accessFlags := 1, nameIndex := 5, descriptorIndex := 6, attributes := #[] }, { accessFlags := 10, nameIndex := 20, descriptorIndex := 21, attributes := #[] }, { accessFlags := 9, nameIndex := 40, descriptorIndex := 41, attributes := #[] }] 49 2 #[] #[])
  fields := #[]
  methods := #[k1m0, k1m1, k1m2]
  instanceTypes := #[]
  staticTypes := #[]
  resolved := Array.replicate 44 none
  statics := none }

def pool2 : Array CpInfo := pool [(1, .methodref 2 3), (0, .class_ 4), (0, .nameAndType 5 6), (0, u "java/lang/Object"), (0, u "<init>"), (0, u "()V"), (9, .fieldref 17 18), (0, .class_ 19), (0, .nameAndType 20 21), (0, u "com/example/clotho/clotho/model/Segment"), (0, u "start"), (0, u "J"), (0, .fieldref 17 23), (0, .nameAndType 24 21), (0, u "end"), (7, u "(JJ)V"), (3, u "getStart"), (0, u "()J"), (0, u "getEnd"), (0, u "equals"), (0, u "(Ljava/lang/Object;)Z")] 22

def k2c0 : Code := { maxStack := 6, maxLocals := 5, code := prog_43_method_1_code, exceptionTable := #[], attributes := #[] }
def k2m0 : Method := { name := "<init>", desc := "(JJ)V", sig := { parameters := [.long, .long], returnType := none }, accessFlags := 1, code := some k2c0 }
def k2c1 : Code := { maxStack := 2, maxLocals := 1, code := prog_43_method_2_code, exceptionTable := #[], attributes := #[] }
def k2m1 : Method := { name := "getStart", desc := "()J", sig := { parameters := [], returnType := some .long }, accessFlags := 1, code := some k2c1 }
def k2c2 : Code := { maxStack := 2, maxLocals := 1, code := prog_43_method_3_code, exceptionTable := #[], attributes := #[] }
def k2m2 : Method := { name := "getEnd", desc := "()J", sig := { parameters := [], returnType := some .long }, accessFlags := 1, code := some k2c2 }
def k2c3 : Code := { maxStack := 4, maxLocals := 3, code := prog_43_method_4_code, exceptionTable := #[], attributes := #[] }
def k2m3 : Method := { name := "equals", desc := "(Ljava/lang/Object;)Z", sig := { parameters := [(.object "java/lang/Object")], returnType := some .boolean }, accessFlags := 1, code := some k2c3 }
/-- com/example/clotho/clotho/model/Segment -/
def k2 : Class := { plain "com/example/clotho/clotho/model/Segment" (some 0) with
  accessFlags := 49
  interfaces := #[]
  cf := some (fileOf pool2 17 #[] #[{ accessFlags := 1, nameIndex := 5, descriptorIndex := 32, attributes := #[] }, { accessFlags := 1, nameIndex := 36, descriptorIndex := 37, attributes := #[] }, { accessFlags := 1, nameIndex := 38, descriptorIndex := 37, attributes := #[] }, { accessFlags := 1, nameIndex := 39, descriptorIndex := 40, attributes := #[] }] 49 2 #[] #[{ accessFlags := 18, nameIndex := 20, descriptorIndex := 21, attributes := #[] }, { accessFlags := 18, nameIndex := 24, descriptorIndex := 21, attributes := #[] }])
  fields := #[{ name := "start", type := .long, accessFlags := 18, slot := 0, constantValue := 0 }, { name := "end", type := .long, accessFlags := 18, slot := 1, constantValue := 0 }]
  methods := #[k2m0, k2m1, k2m2, k2m3]
  instanceTypes := #[.long, .long]
  staticTypes := #[]
  resolved := Array.replicate 63 none
  statics := none }

def pool3 : Array CpInfo := pool [(1, .class_ 2), (0, u "java/io/Serializable"), (0, .class_ 4), (0, u "java/lang/Object")] 2

/-- java/io/Serializable -/
def k3 : Class := { plain "java/io/Serializable" (some 0) with
  accessFlags := 1537
  interfaces := #[]
  cf := some (fileOf pool3 1 #[] #[] 1537 3 #[] #[])
  fields := #[]
  methods := #[]
  instanceTypes := #[]
  staticTypes := #[]
  resolved := Array.replicate 7 none
  statics := none }

def pool4 : Array CpInfo := pool [(1, .methodref 2 3), (0, .class_ 4), (0, .nameAndType 5 6), (0, u "java/lang/Object"), (0, u "<init>"), (0, u "()V"), (1, .class_ 10), (1, u "java/lang/Number"), (2, .class_ 14), (0, u "java/io/Serializable"), (0, u "serialVersionUID"), (0, u "J")] 20

def k4c0 : Code := { maxStack := 1, maxLocals := 1, code := jdk_18_method_1_code, exceptionTable := #[], attributes := #[] }
def k4m0 : Method := { name := "<init>", desc := "()V", sig := { parameters := [], returnType := none }, accessFlags := 1, code := some k4c0 }
/-- java/lang/Number -/
def k4 : Class := { plain "java/lang/Number" (some 0) with
  accessFlags := 1057
  interfaces := #[3]
  cf := some (fileOf pool4 8 #[] #[{ accessFlags := 1, nameIndex := 5, descriptorIndex := 6, attributes := #[] }] 1057 2 #[13] #[{ accessFlags := 26, nameIndex := 15, descriptorIndex := 16, attributes := #[] }])
  fields := #[{ name := "serialVersionUID", type := .long, accessFlags := 26, slot := 0, constantValue := 0 }]
  methods := #[k4m0]
  instanceTypes := #[]
  staticTypes := #[.long]
  resolved := Array.replicate 37 none
  statics := none }

def pool5 : Array CpInfo := pool [(1, .class_ 2), (0, u "java/lang/Comparable"), (0, .class_ 4), (0, u "java/lang/Object")] 7

/-- java/lang/Comparable -/
def k5 : Class := { plain "java/lang/Comparable" (some 0) with
  accessFlags := 1537
  interfaces := #[]
  cf := some (fileOf pool5 1 #[] #[] 1537 3 #[] #[])
  fields := #[]
  methods := #[]
  instanceTypes := #[]
  staticTypes := #[]
  resolved := Array.replicate 12 none
  statics := none }

def pool6 : Array CpInfo := pool [(1, .class_ 2), (0, u "java/lang/constant/Constable"), (0, .class_ 4), (0, u "java/lang/Object")] 6

/-- java/lang/constant/Constable -/
def k6 : Class := { plain "java/lang/constant/Constable" (some 0) with
  accessFlags := 1537
  interfaces := #[]
  cf := some (fileOf pool6 1 #[] #[] 1537 3 #[] #[])
  fields := #[]
  methods := #[]
  instanceTypes := #[]
  staticTypes := #[]
  resolved := Array.replicate 11 none
  statics := none }

def pool7 : Array CpInfo := pool [(1, .class_ 2), (0, u "java/lang/constant/ConstantDesc"), (0, .class_ 4), (0, u "java/lang/Object")] 32

/-- java/lang/constant/ConstantDesc -/
def k7 : Class := { plain "java/lang/constant/ConstantDesc" (some 0) with
  accessFlags := 1537
  interfaces := #[]
  cf := some (fileOf pool7 1 #[] #[] 1537 3 #[] #[])
  fields := #[]
  methods := #[]
  instanceTypes := #[]
  staticTypes := #[]
  resolved := Array.replicate 37 none
  statics := none }

def pool8 : Array CpInfo := pool [(1, .class_ 2), (0, u "java/lang/Long"), (55, .nameAndType 59 60), (0, u "<init>"), (0, u "()V"), (24, u "valueOf"), (143, u "(J)Ljava/lang/Long;"), (0, .long 18446744073709551488), (1, .long 127), (1, .fieldref 235 236), (0, .class_ 237), (0, .nameAndType 238 239), (0, u "java/lang/Long$LongCache"), (0, u "cache"), (0, u "[Ljava/lang/Long;"), (0, .methodref 1 241), (0, .nameAndType 59 242), (0, u "(J)V"), (27, .methodref 271 58), (0, .class_ 272), (0, u "java/lang/Number"), (0, .fieldref 1 274), (0, .nameAndType 275 276), (0, u "value"), (0, u "J"), (84, u "TYPE"), (0, u "Ljava/lang/Class;"), (0, .class_ 364), (0, u "java/lang/Comparable"), (0, .class_ 366), (0, u "java/lang/constant/Constable"), (0, .class_ 368), (0, u "java/lang/constant/ConstantDesc"), (0, u "MIN_VALUE"), (1, u "MAX_VALUE"), (4, u "SIZE"), (0, u "I"), (1, u "BYTES"), (1, u "serialVersionUID")] 142

def k8c0 : Code := { maxStack := 4, maxLocals := 3, code := jdk_35_method_24_code, exceptionTable := #[], attributes := #[] }
def k8m0 : Method := { name := "valueOf", desc := "(J)Ljava/lang/Long;", sig := { parameters := [.long], returnType := some (.object "java/lang/Long") }, accessFlags := 9, code := some k8c0 }
def k8c1 : Code := { maxStack := 3, maxLocals := 3, code := jdk_35_method_26_code, exceptionTable := #[], attributes := #[] }
def k8m1 : Method := { name := "<init>", desc := "(J)V", sig := { parameters := [.long], returnType := none }, accessFlags := 1, code := some k8c1 }
/-- java/lang/Long -/
def k8 : Class := { plain "java/lang/Long" (some 4) with
  accessFlags := 49
  interfaces := #[5, 6, 7]
  cf := some (fileOf pool8 1 #[.nestMembers #[235]] #[{ accessFlags := 9, nameIndex := 85, descriptorIndex := 229, attributes := #[] }, { accessFlags := 1, nameIndex := 59, descriptorIndex := 242, attributes := #[] }] 49 271 #[363, 365, 367] #[{ accessFlags := 25, nameIndex := 369, descriptorIndex := 276, attributes := #[] }, { accessFlags := 25, nameIndex := 371, descriptorIndex := 276, attributes := #[] }, { accessFlags := 25, nameIndex := 361, descriptorIndex := 362, attributes := #[] }, { accessFlags := 18, nameIndex := 275, descriptorIndex := 276, attributes := #[] }, { accessFlags := 25, nameIndex := 376, descriptorIndex := 377, attributes := #[] }, { accessFlags := 25, nameIndex := 379, descriptorIndex := 377, attributes := #[] }, { accessFlags := 26, nameIndex := 381, descriptorIndex := 276, attributes := #[] }])
  fields := #[{ name := "MIN_VALUE", type := .long, accessFlags := 25, slot := 0, constantValue := 0 }, { name := "MAX_VALUE", type := .long, accessFlags := 25, slot := 1, constantValue := 0 }, { name := "TYPE", type := (.object "java/lang/Class"), accessFlags := 25, slot := 2, constantValue := 0 }, { name := "value", type := .long, accessFlags := 18, slot := 0, constantValue := 0 }, { name := "SIZE", type := .int, accessFlags := 25, slot := 3, constantValue := 0 }, { name := "BYTES", type := .int, accessFlags := 25, slot := 4, constantValue := 0 }, { name := "serialVersionUID", type := .long, accessFlags := 26, slot := 5, constantValue := 0 }]
  methods := #[k8m0, k8m1]
  instanceTypes := #[.long]
  staticTypes := #[.long, .long, (.object "java/lang/Class"), .int, .int, .long]
  resolved := Array.replicate 524 none
  statics := none }

def pool9 : Array CpInfo := pool [(2, .class_ 4), (1, u "java/lang/Object"), (0, u "<init>"), (0, u "()V"), (0, .class_ 8), (0, u "java/lang/Long"), (7, .class_ 18), (1, u "java/lang/Long$LongCache"), (0, u "$assertionsDisabled"), (0, u "Z"), (8, u "archivedCache"), (0, u "[Ljava/lang/Long;"), (7, u "cache")] 24

def k9m0 : Method := { name := "<init>", desc := "()V", sig := { parameters := [], returnType := none }, accessFlags := 2, code := none }
/-- java/lang/Long$LongCache -/
def k9 : Class := { plain "java/lang/Long$LongCache" (some 0) with
  accessFlags := 48
  interfaces := #[]
  cf := some (fileOf pool9 16 #[.nestHost 7] #[{ accessFlags := 2, nameIndex := 5, descriptorIndex := 6, attributes := #[] }] 48 2 #[] #[{ accessFlags := 24, nameIndex := 38, descriptorIndex := 30, attributes := #[] }, { accessFlags := 8, nameIndex := 29, descriptorIndex := 30, attributes := #[] }, { accessFlags := 4120, nameIndex := 19, descriptorIndex := 20, attributes := #[] }])
  fields := #[{ name := "cache", type := (.array (.object "java/lang/Long")), accessFlags := 24, slot := 0, constantValue := 0 }, { name := "archivedCache", type := (.array (.object "java/lang/Long")), accessFlags := 8, slot := 1, constantValue := 0 }, { name := "$assertionsDisabled", type := .boolean, accessFlags := 4120, slot := 2, constantValue := 0 }]
  methods := #[k9m0]
  instanceTypes := #[]
  staticTypes := #[(.array (.object "java/lang/Long")), (.array (.object "java/lang/Long")), .boolean]
  resolved := Array.replicate 63 none
  statics := some 0 }

def pool10 : Array CpInfo := pool [(1, u "java/lang/Cloneable"), (0, .class_ 1), (0, u "java/lang/Object"), (0, .class_ 3)] 3

/-- java/lang/Cloneable -/
def k10 : Class := { plain "java/lang/Cloneable" (some 0) with
  accessFlags := 1537
  interfaces := #[]
  cf := some (fileOf pool10 2 #[] #[] 1537 4 #[] #[])
  fields := #[]
  methods := #[]
  instanceTypes := #[]
  staticTypes := #[]
  resolved := Array.replicate 8 none
  statics := none }

/-- the primitive byte -/
def k11 : Class := { plain "byte" none with kind := .primitive 'B', accessFlags := 0x411 }
/-- [B -/
def k12 : Class := { plain "[B" (some 0) with kind := .array 11 .byte, interfaces := #[10, 3], accessFlags := 1041 }

/-- the primitive int -/
def k13 : Class := { plain "int" none with kind := .primitive 'I', accessFlags := 0x411 }
/-- [I -/
def k14 : Class := { plain "[I" (some 0) with kind := .array 13 .int, interfaces := #[10, 3], accessFlags := 1041 }

/-- [Ljava/lang/Long; -/
def k15 : Class := { plain "[Ljava/lang/Long;" (some 0) with kind := .array 8 (.object "java/lang/Long"), interfaces := #[10, 3], accessFlags := 1041 }

def heap : Heap := #[{ cls := 9, slots := #[.ref 1, .null, .int 0], vm := .statics 9 },
  { cls := 15, slots := #[.ref 2, .ref 3, .ref 4, .ref 5, .ref 6, .ref 7, .ref 8, .ref 9, .ref 10, .ref 11, .ref 12, .ref 13, .ref 14, .ref 15, .ref 16, .ref 17, .ref 18, .ref 19, .ref 20, .ref 21, .ref 22, .ref 23, .ref 24, .ref 25, .ref 26, .ref 27, .ref 28, .ref 29, .ref 30, .ref 31, .ref 32, .ref 33, .ref 34, .ref 35, .ref 36, .ref 37, .ref 38, .ref 39, .ref 40, .ref 41, .ref 42, .ref 43, .ref 44, .ref 45, .ref 46, .ref 47, .ref 48, .ref 49, .ref 50, .ref 51, .ref 52, .ref 53, .ref 54, .ref 55, .ref 56, .ref 57, .ref 58, .ref 59, .ref 60, .ref 61, .ref 62, .ref 63, .ref 64, .ref 65, .ref 66, .ref 67, .ref 68, .ref 69, .ref 70, .ref 71, .ref 72, .ref 73, .ref 74, .ref 75, .ref 76, .ref 77, .ref 78, .ref 79, .ref 80, .ref 81, .ref 82, .ref 83, .ref 84, .ref 85, .ref 86, .ref 87, .ref 88, .ref 89, .ref 90, .ref 91, .ref 92, .ref 93, .ref 94, .ref 95, .ref 96, .ref 97, .ref 98, .ref 99, .ref 100, .ref 101, .ref 102, .ref 103, .ref 104, .ref 105, .ref 106, .ref 107, .ref 108, .ref 109, .ref 110, .ref 111, .ref 112, .ref 113, .ref 114, .ref 115, .ref 116, .ref 117, .ref 118, .ref 119, .ref 120, .ref 121, .ref 122, .ref 123, .ref 124, .ref 125, .ref 126, .ref 127, .ref 128, .ref 129, .ref 130, .ref 131, .ref 132, .ref 133, .ref 134, .ref 135, .ref 136, .ref 137, .ref 138, .ref 139, .ref 140, .ref 141, .ref 142, .ref 143, .ref 144, .ref 145, .ref 146, .ref 147, .ref 148, .ref 149, .ref 150, .ref 151, .ref 152, .ref 153, .ref 154, .ref 155, .ref 156, .ref 157, .ref 158, .ref 159, .ref 160, .ref 161, .ref 162, .ref 163, .ref 164, .ref 165, .ref 166, .ref 167, .ref 168, .ref 169, .ref 170, .ref 171, .ref 172, .ref 173, .ref 174, .ref 175, .ref 176, .ref 177, .ref 178, .ref 179, .ref 180, .ref 181, .ref 182, .ref 183, .ref 184, .ref 185, .ref 186, .ref 187, .ref 188, .ref 189, .ref 190, .ref 191, .ref 192, .ref 193, .ref 194, .ref 195, .ref 196, .ref 197, .ref 198, .ref 199, .ref 200, .ref 201, .ref 202, .ref 203, .ref 204, .ref 205, .ref 206, .ref 207, .ref 208, .ref 209, .ref 210, .ref 211, .ref 212, .ref 213, .ref 214, .ref 215, .ref 216, .ref 217, .ref 218, .ref 219, .ref 220, .ref 221, .ref 222, .ref 223, .ref 224, .ref 225, .ref 226, .ref 227, .ref 228, .ref 229, .ref 230, .ref 231, .ref 232, .ref 233, .ref 234, .ref 235, .ref 236, .ref 237, .ref 238, .ref 239, .ref 240, .ref 241, .ref 242, .ref 243, .ref 244, .ref 245, .ref 246, .ref 247, .ref 248, .ref 249, .ref 250, .ref 251, .ref 252, .ref 253, .ref 254, .ref 255, .ref 256, .ref 257], vm := .none },
  { cls := 8, slots := #[.long (-128)], vm := .none },
  { cls := 8, slots := #[.long (-127)], vm := .none },
  { cls := 8, slots := #[.long (-126)], vm := .none },
  { cls := 8, slots := #[.long (-125)], vm := .none },
  { cls := 8, slots := #[.long (-124)], vm := .none },
  { cls := 8, slots := #[.long (-123)], vm := .none },
  { cls := 8, slots := #[.long (-122)], vm := .none },
  { cls := 8, slots := #[.long (-121)], vm := .none },
  { cls := 8, slots := #[.long (-120)], vm := .none },
  { cls := 8, slots := #[.long (-119)], vm := .none },
  { cls := 8, slots := #[.long (-118)], vm := .none },
  { cls := 8, slots := #[.long (-117)], vm := .none },
  { cls := 8, slots := #[.long (-116)], vm := .none },
  { cls := 8, slots := #[.long (-115)], vm := .none },
  { cls := 8, slots := #[.long (-114)], vm := .none },
  { cls := 8, slots := #[.long (-113)], vm := .none },
  { cls := 8, slots := #[.long (-112)], vm := .none },
  { cls := 8, slots := #[.long (-111)], vm := .none },
  { cls := 8, slots := #[.long (-110)], vm := .none },
  { cls := 8, slots := #[.long (-109)], vm := .none },
  { cls := 8, slots := #[.long (-108)], vm := .none },
  { cls := 8, slots := #[.long (-107)], vm := .none },
  { cls := 8, slots := #[.long (-106)], vm := .none },
  { cls := 8, slots := #[.long (-105)], vm := .none },
  { cls := 8, slots := #[.long (-104)], vm := .none },
  { cls := 8, slots := #[.long (-103)], vm := .none },
  { cls := 8, slots := #[.long (-102)], vm := .none },
  { cls := 8, slots := #[.long (-101)], vm := .none },
  { cls := 8, slots := #[.long (-100)], vm := .none },
  { cls := 8, slots := #[.long (-99)], vm := .none },
  { cls := 8, slots := #[.long (-98)], vm := .none },
  { cls := 8, slots := #[.long (-97)], vm := .none },
  { cls := 8, slots := #[.long (-96)], vm := .none },
  { cls := 8, slots := #[.long (-95)], vm := .none },
  { cls := 8, slots := #[.long (-94)], vm := .none },
  { cls := 8, slots := #[.long (-93)], vm := .none },
  { cls := 8, slots := #[.long (-92)], vm := .none },
  { cls := 8, slots := #[.long (-91)], vm := .none },
  { cls := 8, slots := #[.long (-90)], vm := .none },
  { cls := 8, slots := #[.long (-89)], vm := .none },
  { cls := 8, slots := #[.long (-88)], vm := .none },
  { cls := 8, slots := #[.long (-87)], vm := .none },
  { cls := 8, slots := #[.long (-86)], vm := .none },
  { cls := 8, slots := #[.long (-85)], vm := .none },
  { cls := 8, slots := #[.long (-84)], vm := .none },
  { cls := 8, slots := #[.long (-83)], vm := .none },
  { cls := 8, slots := #[.long (-82)], vm := .none },
  { cls := 8, slots := #[.long (-81)], vm := .none },
  { cls := 8, slots := #[.long (-80)], vm := .none },
  { cls := 8, slots := #[.long (-79)], vm := .none },
  { cls := 8, slots := #[.long (-78)], vm := .none },
  { cls := 8, slots := #[.long (-77)], vm := .none },
  { cls := 8, slots := #[.long (-76)], vm := .none },
  { cls := 8, slots := #[.long (-75)], vm := .none },
  { cls := 8, slots := #[.long (-74)], vm := .none },
  { cls := 8, slots := #[.long (-73)], vm := .none },
  { cls := 8, slots := #[.long (-72)], vm := .none },
  { cls := 8, slots := #[.long (-71)], vm := .none },
  { cls := 8, slots := #[.long (-70)], vm := .none },
  { cls := 8, slots := #[.long (-69)], vm := .none },
  { cls := 8, slots := #[.long (-68)], vm := .none },
  { cls := 8, slots := #[.long (-67)], vm := .none },
  { cls := 8, slots := #[.long (-66)], vm := .none },
  { cls := 8, slots := #[.long (-65)], vm := .none },
  { cls := 8, slots := #[.long (-64)], vm := .none },
  { cls := 8, slots := #[.long (-63)], vm := .none },
  { cls := 8, slots := #[.long (-62)], vm := .none },
  { cls := 8, slots := #[.long (-61)], vm := .none },
  { cls := 8, slots := #[.long (-60)], vm := .none },
  { cls := 8, slots := #[.long (-59)], vm := .none },
  { cls := 8, slots := #[.long (-58)], vm := .none },
  { cls := 8, slots := #[.long (-57)], vm := .none },
  { cls := 8, slots := #[.long (-56)], vm := .none },
  { cls := 8, slots := #[.long (-55)], vm := .none },
  { cls := 8, slots := #[.long (-54)], vm := .none },
  { cls := 8, slots := #[.long (-53)], vm := .none },
  { cls := 8, slots := #[.long (-52)], vm := .none },
  { cls := 8, slots := #[.long (-51)], vm := .none },
  { cls := 8, slots := #[.long (-50)], vm := .none },
  { cls := 8, slots := #[.long (-49)], vm := .none },
  { cls := 8, slots := #[.long (-48)], vm := .none },
  { cls := 8, slots := #[.long (-47)], vm := .none },
  { cls := 8, slots := #[.long (-46)], vm := .none },
  { cls := 8, slots := #[.long (-45)], vm := .none },
  { cls := 8, slots := #[.long (-44)], vm := .none },
  { cls := 8, slots := #[.long (-43)], vm := .none },
  { cls := 8, slots := #[.long (-42)], vm := .none },
  { cls := 8, slots := #[.long (-41)], vm := .none },
  { cls := 8, slots := #[.long (-40)], vm := .none },
  { cls := 8, slots := #[.long (-39)], vm := .none },
  { cls := 8, slots := #[.long (-38)], vm := .none },
  { cls := 8, slots := #[.long (-37)], vm := .none },
  { cls := 8, slots := #[.long (-36)], vm := .none },
  { cls := 8, slots := #[.long (-35)], vm := .none },
  { cls := 8, slots := #[.long (-34)], vm := .none },
  { cls := 8, slots := #[.long (-33)], vm := .none },
  { cls := 8, slots := #[.long (-32)], vm := .none },
  { cls := 8, slots := #[.long (-31)], vm := .none },
  { cls := 8, slots := #[.long (-30)], vm := .none },
  { cls := 8, slots := #[.long (-29)], vm := .none },
  { cls := 8, slots := #[.long (-28)], vm := .none },
  { cls := 8, slots := #[.long (-27)], vm := .none },
  { cls := 8, slots := #[.long (-26)], vm := .none },
  { cls := 8, slots := #[.long (-25)], vm := .none },
  { cls := 8, slots := #[.long (-24)], vm := .none },
  { cls := 8, slots := #[.long (-23)], vm := .none },
  { cls := 8, slots := #[.long (-22)], vm := .none },
  { cls := 8, slots := #[.long (-21)], vm := .none },
  { cls := 8, slots := #[.long (-20)], vm := .none },
  { cls := 8, slots := #[.long (-19)], vm := .none },
  { cls := 8, slots := #[.long (-18)], vm := .none },
  { cls := 8, slots := #[.long (-17)], vm := .none },
  { cls := 8, slots := #[.long (-16)], vm := .none },
  { cls := 8, slots := #[.long (-15)], vm := .none },
  { cls := 8, slots := #[.long (-14)], vm := .none },
  { cls := 8, slots := #[.long (-13)], vm := .none },
  { cls := 8, slots := #[.long (-12)], vm := .none },
  { cls := 8, slots := #[.long (-11)], vm := .none },
  { cls := 8, slots := #[.long (-10)], vm := .none },
  { cls := 8, slots := #[.long (-9)], vm := .none },
  { cls := 8, slots := #[.long (-8)], vm := .none },
  { cls := 8, slots := #[.long (-7)], vm := .none },
  { cls := 8, slots := #[.long (-6)], vm := .none },
  { cls := 8, slots := #[.long (-5)], vm := .none },
  { cls := 8, slots := #[.long (-4)], vm := .none },
  { cls := 8, slots := #[.long (-3)], vm := .none },
  { cls := 8, slots := #[.long (-2)], vm := .none },
  { cls := 8, slots := #[.long (-1)], vm := .none },
  { cls := 8, slots := #[.long 0], vm := .none },
  { cls := 8, slots := #[.long 1], vm := .none },
  { cls := 8, slots := #[.long 2], vm := .none },
  { cls := 8, slots := #[.long 3], vm := .none },
  { cls := 8, slots := #[.long 4], vm := .none },
  { cls := 8, slots := #[.long 5], vm := .none },
  { cls := 8, slots := #[.long 6], vm := .none },
  { cls := 8, slots := #[.long 7], vm := .none },
  { cls := 8, slots := #[.long 8], vm := .none },
  { cls := 8, slots := #[.long 9], vm := .none },
  { cls := 8, slots := #[.long 10], vm := .none },
  { cls := 8, slots := #[.long 11], vm := .none },
  { cls := 8, slots := #[.long 12], vm := .none },
  { cls := 8, slots := #[.long 13], vm := .none },
  { cls := 8, slots := #[.long 14], vm := .none },
  { cls := 8, slots := #[.long 15], vm := .none },
  { cls := 8, slots := #[.long 16], vm := .none },
  { cls := 8, slots := #[.long 17], vm := .none },
  { cls := 8, slots := #[.long 18], vm := .none },
  { cls := 8, slots := #[.long 19], vm := .none },
  { cls := 8, slots := #[.long 20], vm := .none },
  { cls := 8, slots := #[.long 21], vm := .none },
  { cls := 8, slots := #[.long 22], vm := .none },
  { cls := 8, slots := #[.long 23], vm := .none },
  { cls := 8, slots := #[.long 24], vm := .none },
  { cls := 8, slots := #[.long 25], vm := .none },
  { cls := 8, slots := #[.long 26], vm := .none },
  { cls := 8, slots := #[.long 27], vm := .none },
  { cls := 8, slots := #[.long 28], vm := .none },
  { cls := 8, slots := #[.long 29], vm := .none },
  { cls := 8, slots := #[.long 30], vm := .none },
  { cls := 8, slots := #[.long 31], vm := .none },
  { cls := 8, slots := #[.long 32], vm := .none },
  { cls := 8, slots := #[.long 33], vm := .none },
  { cls := 8, slots := #[.long 34], vm := .none },
  { cls := 8, slots := #[.long 35], vm := .none },
  { cls := 8, slots := #[.long 36], vm := .none },
  { cls := 8, slots := #[.long 37], vm := .none },
  { cls := 8, slots := #[.long 38], vm := .none },
  { cls := 8, slots := #[.long 39], vm := .none },
  { cls := 8, slots := #[.long 40], vm := .none },
  { cls := 8, slots := #[.long 41], vm := .none },
  { cls := 8, slots := #[.long 42], vm := .none },
  { cls := 8, slots := #[.long 43], vm := .none },
  { cls := 8, slots := #[.long 44], vm := .none },
  { cls := 8, slots := #[.long 45], vm := .none },
  { cls := 8, slots := #[.long 46], vm := .none },
  { cls := 8, slots := #[.long 47], vm := .none },
  { cls := 8, slots := #[.long 48], vm := .none },
  { cls := 8, slots := #[.long 49], vm := .none },
  { cls := 8, slots := #[.long 50], vm := .none },
  { cls := 8, slots := #[.long 51], vm := .none },
  { cls := 8, slots := #[.long 52], vm := .none },
  { cls := 8, slots := #[.long 53], vm := .none },
  { cls := 8, slots := #[.long 54], vm := .none },
  { cls := 8, slots := #[.long 55], vm := .none },
  { cls := 8, slots := #[.long 56], vm := .none },
  { cls := 8, slots := #[.long 57], vm := .none },
  { cls := 8, slots := #[.long 58], vm := .none },
  { cls := 8, slots := #[.long 59], vm := .none },
  { cls := 8, slots := #[.long 60], vm := .none },
  { cls := 8, slots := #[.long 61], vm := .none },
  { cls := 8, slots := #[.long 62], vm := .none },
  { cls := 8, slots := #[.long 63], vm := .none },
  { cls := 8, slots := #[.long 64], vm := .none },
  { cls := 8, slots := #[.long 65], vm := .none },
  { cls := 8, slots := #[.long 66], vm := .none },
  { cls := 8, slots := #[.long 67], vm := .none },
  { cls := 8, slots := #[.long 68], vm := .none },
  { cls := 8, slots := #[.long 69], vm := .none },
  { cls := 8, slots := #[.long 70], vm := .none },
  { cls := 8, slots := #[.long 71], vm := .none },
  { cls := 8, slots := #[.long 72], vm := .none },
  { cls := 8, slots := #[.long 73], vm := .none },
  { cls := 8, slots := #[.long 74], vm := .none },
  { cls := 8, slots := #[.long 75], vm := .none },
  { cls := 8, slots := #[.long 76], vm := .none },
  { cls := 8, slots := #[.long 77], vm := .none },
  { cls := 8, slots := #[.long 78], vm := .none },
  { cls := 8, slots := #[.long 79], vm := .none },
  { cls := 8, slots := #[.long 80], vm := .none },
  { cls := 8, slots := #[.long 81], vm := .none },
  { cls := 8, slots := #[.long 82], vm := .none },
  { cls := 8, slots := #[.long 83], vm := .none },
  { cls := 8, slots := #[.long 84], vm := .none },
  { cls := 8, slots := #[.long 85], vm := .none },
  { cls := 8, slots := #[.long 86], vm := .none },
  { cls := 8, slots := #[.long 87], vm := .none },
  { cls := 8, slots := #[.long 88], vm := .none },
  { cls := 8, slots := #[.long 89], vm := .none },
  { cls := 8, slots := #[.long 90], vm := .none },
  { cls := 8, slots := #[.long 91], vm := .none },
  { cls := 8, slots := #[.long 92], vm := .none },
  { cls := 8, slots := #[.long 93], vm := .none },
  { cls := 8, slots := #[.long 94], vm := .none },
  { cls := 8, slots := #[.long 95], vm := .none },
  { cls := 8, slots := #[.long 96], vm := .none },
  { cls := 8, slots := #[.long 97], vm := .none },
  { cls := 8, slots := #[.long 98], vm := .none },
  { cls := 8, slots := #[.long 99], vm := .none },
  { cls := 8, slots := #[.long 100], vm := .none },
  { cls := 8, slots := #[.long 101], vm := .none },
  { cls := 8, slots := #[.long 102], vm := .none },
  { cls := 8, slots := #[.long 103], vm := .none },
  { cls := 8, slots := #[.long 104], vm := .none },
  { cls := 8, slots := #[.long 105], vm := .none },
  { cls := 8, slots := #[.long 106], vm := .none },
  { cls := 8, slots := #[.long 107], vm := .none },
  { cls := 8, slots := #[.long 108], vm := .none },
  { cls := 8, slots := #[.long 109], vm := .none },
  { cls := 8, slots := #[.long 110], vm := .none },
  { cls := 8, slots := #[.long 111], vm := .none },
  { cls := 8, slots := #[.long 112], vm := .none },
  { cls := 8, slots := #[.long 113], vm := .none },
  { cls := 8, slots := #[.long 114], vm := .none },
  { cls := 8, slots := #[.long 115], vm := .none },
  { cls := 8, slots := #[.long 116], vm := .none },
  { cls := 8, slots := #[.long 117], vm := .none },
  { cls := 8, slots := #[.long 118], vm := .none },
  { cls := 8, slots := #[.long 119], vm := .none },
  { cls := 8, slots := #[.long 120], vm := .none },
  { cls := 8, slots := #[.long 121], vm := .none },
  { cls := 8, slots := #[.long 122], vm := .none },
  { cls := 8, slots := #[.long 123], vm := .none },
  { cls := 8, slots := #[.long 124], vm := .none },
  { cls := 8, slots := #[.long 125], vm := .none },
  { cls := 8, slots := #[.long 126], vm := .none },
  { cls := 8, slots := #[.long 127], vm := .none }]
def classes : Array Class := #[k0, k1, k2, k3, k4, k5, k6, k7, k8, k9, k10, k11, k12, k13, k14, k15]
def interned : List (Array UInt16 × Addr) := []
def slotsUsed : Nat := 515
def theMethod : MethodId := ⟨1, 2⟩
def args0 : Array Value := #[.long 3, .long 9, .long 5, .long 4, .int 1]
def aboutOver (below : List Frame) : State where
  vm := { classes := classes, interned := interned.toArray }
  heap := heap
  slotsUsed := slotsUsed
  threads := #[{ frames := .invoking theMethod args0 :: below }]
def below0 : List Frame := [.native { method := ⟨0, 0⟩, args := #[] }]
def about1 : State := aboutOver below0
def p0 : Program := .bare "" "" ""
def e0 : Env := launch0.env 0 0 0
theorem w_frames : about1.frames = Frame.invoking theMethod args0 :: below0 := rfl
set_option maxRecDepth 65536 in
theorem w_args : argsFit about1.vm theMethod args0 = true := by decide +kernel
set_option maxRecDepth 65536 in
theorem w_heap : heapFits about1 = true := by decide +kernel
set_option maxRecDepth 65536 in
theorem w_runnable : about1.curStatus? = some .runnable := by decide +kernel
set_option maxRecDepth 65536 in
theorem w_alone : about1.alone = true := by decide +kernel
set_option maxRecDepth 65536 in
theorem w_named : about1.methodNamed? x = some theMethod := by decide +kernel
set_option maxRecDepth 65536 in
theorem w_hears : about1.hears theMethod below0 = true := by decide +kernel
set_option maxRecDepth 65536 in
theorem w_ripe : about1.ripe theMethod args0 below0 = true := by decide +kernel
theorem w_running : about1.status = .running := rfl
set_option maxRecDepth 65536 in
theorem w_room : about1.hasRoom e0.platform room_1 = true :=
  launch0.hasRoom_least _ room_1 (by decide +kernel) (by decide +kernel) (by decide +kernel) (by decide +kernel) (by decide +kernel) (by decide +kernel)
theorem allAtoms_all (ts : List Jvm.Cond) (a : Array Jvm.Value) (st : Jvm.State) : (allAtoms ts).before a st = ts.all (fun c => c.before a st) := by
  induction ts with
  | nil => rfl
  | cons c t ih =>
    show (Jvm.Cond.and c (allAtoms t)).before a st = _
    rw [Jvm.Cond.before_and, ih, List.all_cons]
def words1 : List Jvm.Cond := Jvm.Cond.code x code maxLocals ret :: tables_1
/-- a 'code' word, met by the world's own term for the bytes: nothing is compared byte by byte -/
theorem code_word {y : MethodName} {bytes : ByteArray} {mx : Nat} {rt : Option FieldType} {a : Array Value} {s : State} {m : MethodId} {meth : Method} {c : Code} (h1 : s.methodNamed? y = some m) (h2 : s.vm.method? m = some meth) (h3 : meth.code = some c) (h4 : c.code = bytes)
    (h5 : (c.maxLocals == mx && c.exceptionTable.isEmpty && decide (c.maxStack ≤ mostOperands) && decide (meth.sig.returnType = rt) && !meth.locks && decide (parseMethodDescriptor y.desc = some meth.sig)) = true) : (Jvm.Cond.code y bytes mx rt).before a s = true := by
  simp only [Bool.and_eq_true, beq_iff_eq, Bool.not_eq_true', decide_eq_true_eq] at h5
  obtain ⟨⟨⟨⟨⟨g1, g2⟩, g3⟩, g4⟩, g5⟩, g6⟩ := h5
  simp [Cond.before, Cond.holds, Cond.value, h1, h2, h3, h4, g1, g2, g3, g4, g5, g6]
def isCode : Jvm.Cond → Bool
  | .code _ _ _ _ => true
  | _ => false
theorem all_split {L : List Jvm.Cond} {P : Jvm.Cond → Bool} (h1 : L.all (fun c => isCode c || P c) = true) (h2 : ∀ c ∈ L.filter isCode, P c = true) : L.all P = true := by
  refine List.all_eq_true.mpr fun c hc => ?_
  have h := List.all_eq_true.mp h1 c hc
  rcases Bool.eq_false_or_eq_true (isCode c) with hi | hi
  · exact h2 c (List.mem_filter.mpr ⟨hc, hi⟩)
  · simpa [hi] using h
set_option maxRecDepth 65536 in
theorem w_c0 : (Jvm.Cond.code x code maxLocals ret).before args0 about1 = true := code_word (m := ⟨1, 2⟩) (meth := k1m2) (c := k1c2) (by decide +kernel) rfl rfl rfl (by decide +kernel)
set_option maxRecDepth 65536 in
theorem w_c1 : (Jvm.Cond.code ({ cls := "com/example/clotho/clotho/model/SegmentEqualsPinLaw", name := "make", desc := "(JJ)Lcom/example/clotho/clotho/model/Segment;" } : Jvm.MethodName) method_2_code (4 : Nat) (Option.some (Jvm.ClassFile.FieldType.object "com/example/clotho/clotho/model/Segment"))).before args0 about1 = true := code_word (m := ⟨1, 1⟩) (meth := k1m1) (c := k1c1) (by decide +kernel) rfl rfl rfl (by decide +kernel)
set_option maxRecDepth 65536 in
theorem w_c2 : (Jvm.Cond.code ({ cls := "com/example/clotho/clotho/model/Segment", name := "<init>", desc := "(JJ)V" } : Jvm.MethodName) prog_43_method_1_code (5 : Nat) (Option.none : Option Jvm.ClassFile.FieldType)).before args0 about1 = true := code_word (m := ⟨2, 0⟩) (meth := k2m0) (c := k2c0) (by decide +kernel) rfl rfl rfl (by decide +kernel)
set_option maxRecDepth 65536 in
theorem w_c3 : (Jvm.Cond.code ({ cls := "java/lang/Object", name := "<init>", desc := "()V" } : Jvm.MethodName) object_method_1_code (1 : Nat) (Option.none : Option Jvm.ClassFile.FieldType)).before args0 about1 = true := code_word (m := ⟨0, 0⟩) (meth := k0m0) (c := k0c0) (by decide +kernel) rfl rfl rfl (by decide +kernel)
set_option maxRecDepth 65536 in
theorem w_c4 : (Jvm.Cond.code ({ cls := "com/example/clotho/clotho/model/Segment", name := "getStart", desc := "()J" } : Jvm.MethodName) prog_43_method_2_code (1 : Nat) (Option.some Jvm.ClassFile.FieldType.long)).before args0 about1 = true := code_word (m := ⟨2, 1⟩) (meth := k2m1) (c := k2c1) (by decide +kernel) rfl rfl rfl (by decide +kernel)
set_option maxRecDepth 65536 in
theorem w_c5 : (Jvm.Cond.code ({ cls := "com/example/clotho/clotho/model/Segment", name := "getEnd", desc := "()J" } : Jvm.MethodName) prog_43_method_3_code (1 : Nat) (Option.some Jvm.ClassFile.FieldType.long)).before args0 about1 = true := code_word (m := ⟨2, 2⟩) (meth := k2m2) (c := k2c2) (by decide +kernel) rfl rfl rfl (by decide +kernel)
set_option maxRecDepth 65536 in
theorem w_c6 : (Jvm.Cond.code ({ cls := "com/example/clotho/clotho/model/Segment", name := "equals", desc := "(Ljava/lang/Object;)Z" } : Jvm.MethodName) prog_43_method_4_code (3 : Nat) (Option.some Jvm.ClassFile.FieldType.boolean)).before args0 about1 = true := code_word (m := ⟨2, 3⟩) (meth := k2m3) (c := k2c3) (by decide +kernel) rfl rfl rfl (by decide +kernel)
set_option maxRecDepth 65536 in
theorem w_c7 : (Jvm.Cond.code ({ cls := "java/lang/Long", name := "valueOf", desc := "(J)Ljava/lang/Long;" } : Jvm.MethodName) jdk_35_method_24_code (3 : Nat) (Option.some (Jvm.ClassFile.FieldType.object "java/lang/Long"))).before args0 about1 = true := code_word (m := ⟨8, 0⟩) (meth := k8m0) (c := k8c0) (by decide +kernel) rfl rfl rfl (by decide +kernel)
set_option maxRecDepth 65536 in
theorem w_c8 : (Jvm.Cond.code ({ cls := "java/lang/Long", name := "<init>", desc := "(J)V" } : Jvm.MethodName) jdk_35_method_26_code (3 : Nat) (Option.none : Option Jvm.ClassFile.FieldType)).before args0 about1 = true := code_word (m := ⟨8, 1⟩) (meth := k8m1) (c := k8c1) (by decide +kernel) rfl rfl rfl (by decide +kernel)
set_option maxRecDepth 65536 in
theorem w_c9 : (Jvm.Cond.code ({ cls := "java/lang/Number", name := "<init>", desc := "()V" } : Jvm.MethodName) jdk_18_method_1_code (1 : Nat) (Option.none : Option Jvm.ClassFile.FieldType)).before args0 about1 = true := code_word (m := ⟨4, 0⟩) (meth := k4m0) (c := k4c0) (by decide +kernel) rfl rfl rfl (by decide +kernel)
def codes1 : List Jvm.Cond := [Jvm.Cond.code x code maxLocals ret, Jvm.Cond.code ({ cls := "com/example/clotho/clotho/model/SegmentEqualsPinLaw", name := "make", desc := "(JJ)Lcom/example/clotho/clotho/model/Segment;" } : Jvm.MethodName) method_2_code (4 : Nat) (Option.some (Jvm.ClassFile.FieldType.object "com/example/clotho/clotho/model/Segment")), Jvm.Cond.code ({ cls := "com/example/clotho/clotho/model/Segment", name := "<init>", desc := "(JJ)V" } : Jvm.MethodName) prog_43_method_1_code (5 : Nat) (Option.none : Option Jvm.ClassFile.FieldType), Jvm.Cond.code ({ cls := "java/lang/Object", name := "<init>", desc := "()V" } : Jvm.MethodName) object_method_1_code (1 : Nat) (Option.none : Option Jvm.ClassFile.FieldType), Jvm.Cond.code ({ cls := "com/example/clotho/clotho/model/Segment", name := "getStart", desc := "()J" } : Jvm.MethodName) prog_43_method_2_code (1 : Nat) (Option.some Jvm.ClassFile.FieldType.long), Jvm.Cond.code ({ cls := "com/example/clotho/clotho/model/Segment", name := "getEnd", desc := "()J" } : Jvm.MethodName) prog_43_method_3_code (1 : Nat) (Option.some Jvm.ClassFile.FieldType.long), Jvm.Cond.code ({ cls := "com/example/clotho/clotho/model/Segment", name := "equals", desc := "(Ljava/lang/Object;)Z" } : Jvm.MethodName) prog_43_method_4_code (3 : Nat) (Option.some Jvm.ClassFile.FieldType.boolean), Jvm.Cond.code ({ cls := "java/lang/Long", name := "valueOf", desc := "(J)Ljava/lang/Long;" } : Jvm.MethodName) jdk_35_method_24_code (3 : Nat) (Option.some (Jvm.ClassFile.FieldType.object "java/lang/Long")), Jvm.Cond.code ({ cls := "java/lang/Long", name := "<init>", desc := "(J)V" } : Jvm.MethodName) jdk_35_method_26_code (3 : Nat) (Option.none : Option Jvm.ClassFile.FieldType), Jvm.Cond.code ({ cls := "java/lang/Number", name := "<init>", desc := "()V" } : Jvm.MethodName) jdk_18_method_1_code (1 : Nat) (Option.none : Option Jvm.ClassFile.FieldType)]
set_option maxRecDepth 65536 in
theorem codes_eq : words1.filter isCode = codes1 := rfl
theorem w_codes : ∀ c ∈ words1.filter isCode, c.before args0 about1 = true := by
  rw [codes_eq]
  intro c hc
  simp only [codes1, List.mem_cons, List.not_mem_nil, or_false] at hc
  rcases hc with rfl | rfl | rfl | rfl | rfl | rfl | rfl | rfl | rfl | rfl
  · exact w_c0
  · exact w_c1
  · exact w_c2
  · exact w_c3
  · exact w_c4
  · exact w_c5
  · exact w_c6
  · exact w_c7
  · exact w_c8
  · exact w_c9
set_option maxRecDepth 65536 in
theorem w_t1 : (words1.take 24).all (fun c => isCode c || c.before args0 about1) = true := by decide +kernel
set_option maxRecDepth 65536 in
theorem w_t2 : ((words1.drop 24).take 24).all (fun c => isCode c || c.before args0 about1) = true := by decide +kernel
set_option maxRecDepth 65536 in
theorem w_t3 : ((words1.drop 24).drop 24).all (fun c => isCode c || c.before args0 about1) = true := by decide +kernel
theorem w_tables : (allAtoms (Jvm.Cond.code x code maxLocals ret :: tables_1)).before args0 about1 = true := by
  rw [allAtoms_all]
  show words1.all (fun c => c.before args0 about1) = true
  refine all_split ?_ w_codes
  rw [← List.take_append_drop 24 words1, List.all_append, w_t1, ← List.take_append_drop 24 (words1.drop 24), List.all_append, w_t2, w_t3]
  rfl
set_option maxRecDepth 65536 in
theorem w_rest : rest_1_c.before args0 about1 = true := by decide +kernel
set_option maxRecDepth 65536 in
theorem w_case : (Jvm.Cond.and given_1 narrow_1).before args0 about1 = true := by decide +kernel
theorem w_applies : (headSpec (Jvm.Cond.code x code maxLocals ret :: tables_1) room_1).applies x e0.platform about1 = true :=
  (Spec.applies_iff w_frames).mpr ⟨w_running, w_runnable, w_alone, w_named, w_hears, w_ripe, w_room, w_tables⟩
theorem atStart : AtStart classFile x code maxLocals ret World_1 tables_1 room_1 Calls_1 rest_1 Pre_1 launch0 p0 e0 about1 theMethod args0 below0 :=
  ⟨lists_1, trivial, launch0.admits_env _ _ _, launch0.least_env, fairChoices_fair.cas, fairChoices_fair.clock, w_frames, w_args, w_heap, w_applies, trivial, w_rest, w_case⟩
end start1
theorem witness_1 : WitnessClaimed_1 := ⟨start1.p0, start1.e0, start1.about1, start1.theMethod, start1.args0, start1.below0, start1.atStart⟩
end Jvm.Pilot.@@N@@
