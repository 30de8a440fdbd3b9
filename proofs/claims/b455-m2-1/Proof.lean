import JvmDerived
import JvmDerived.Pilot.@@N@@Statement
import JvmDerived.Pilot.@@N@@Code
set_option linter.unusedVariables false
set_option linter.unusedSimpArgs false
namespace Jvm.RoadKit
open Sem ClassFile Op Lib Jvm.Stand Jvm.Free Jvm.LawKit
section New
variable {p : Program} {l : Launch} {e : Env} {R : Room} {s : State} {m : MethodId} {args : Array Value} {below : List Frame} {meth : Method} {c : Code} {T : State} {locs : List Loc} {cells slots : Nat}
theorem retI (X : Stand p l e R s m args below meth c T locs cells slots) (hx : p.tables.exec = Jvm.exec) {pc : Nat} {Ls : Array Slot} {z : Int32} {rest : List Value} (hret : meth.sig.returnType = some .int) (hd : decode c.code pc = .ok (.ireturn, 1)) {fs : List Frame}
    (hl : ∀ (f : JFrame) (acts : List Action), f.method = m → f.locked = none → f.entered = [] → (doReturn e (T.setTop f) acts (some (.int z))).1 = T.setFrames fs) : Steps p.tables e below (T.setTop (mkF m pc Ls (.int z :: rest))) (T.setFrames fs) :=
  retOut X hx hret rfl (Or.inl ⟨rfl, Or.inl rfl, z, rfl⟩) hd hl
theorem retJ (X : Stand p l e R s m args below meth c T locs cells slots) (hx : p.tables.exec = Jvm.exec) {pc : Nat} {Ls : Array Slot} {z : Int64} {rest : List Value} (hret : meth.sig.returnType = some .long) (hd : decode c.code pc = .ok (.lreturn, 1)) {fs : List Frame}
    (hl : ∀ (f : JFrame) (acts : List Action), f.method = m → f.locked = none → f.entered = [] → (doReturn e (T.setTop f) acts (some (.long z))).1 = T.setFrames fs) : Steps p.tables e below (T.setTop (mkF m pc Ls (.long z :: rest))) (T.setFrames fs) :=
  retOut X hx hret rfl (Or.inr (Or.inl ⟨rfl, rfl, z, rfl⟩)) hd hl
theorem retA (X : Stand p l e R s m args below meth c T locs cells slots) (hx : p.tables.exec = Jvm.exec) {pc : Nat} {Ls : Array Slot} {w : Value} {rest : List Value} {t : FieldType} (hret : meth.sig.returnType = some t) (ht : t.isReference = true) (hn : narrow t w = w) (hw : w.isRef = true) (hd : decode c.code pc = .ok (.areturn, 1)) {fs : List Frame}
    (hl : ∀ (f : JFrame) (acts : List Action), f.method = m → f.locked = none → f.entered = [] → (doReturn e (T.setTop f) acts (some w)).1 = T.setFrames fs) : Steps p.tables e below (T.setTop (mkF m pc Ls (w :: rest))) (T.setFrames fs) :=
  retOut X hx hret hn (Or.inr (Or.inr (Or.inr (Or.inr ⟨rfl, ht, hw⟩)))) hd hl
end New
end Jvm.RoadKit
namespace Jvm.Pilot.@@N@@
open Jvm Jvm.ClassFile Sem Op Lib Jvm.Free Jvm.Stand Jvm.LawKit Jvm.RoadKit Bundle Jvm.Pilot.@@N@@.Jvm.D
theorem own_ext {h0 h : Heap} (K : Keep h0 h []) : Ext h0 h := ⟨K.1, fun a c q => K.2.1 a c q nin0⟩

def own_of (q : Int64) (p : Int32) : Int64 := if p = 0 then q else (q ||| (-9223372036854775808 : Int64))
theorem own_rng (t : Int64) : 0 ≤ (t &&& (9223372036854775807 : Int64)).toInt := by
  have := c_maskL t (9223372036854775807 : Int64) 63 (by decide) (by decide); omega
theorem own_or (u : Int64) (h : 0 ≤ u.toInt) : (u ||| (-9223372036854775808 : Int64)).toInt = u.toInt - 9223372036854775808 := by
  have h1 := c_orL' u (-9223372036854775808 : Int64) 63 (by decide) 9223372036854775808 (by decide) (by decide) h (rng64 u).2
  have h2 := rng64 (u ||| (-9223372036854775808 : Int64))
  have h3 := rng64 u
  have h4 : (-9223372036854775808 : Int64).toInt = -9223372036854775808 := by decide
  omega
theorem own_back (u : Int64) (h : 0 ≤ u.toInt) : ((u ||| (-9223372036854775808 : Int64)) &&& (9223372036854775807 : Int64)) = u := by
  have h1 := c_maskL (u ||| (-9223372036854775808 : Int64)) (9223372036854775807 : Int64) 63 (by decide) (by decide)
  have h2 := own_or u h
  have h3 := rng64 u
  apply Int64.toInt_inj.mp
  omega
theorem own_back0 (u : Int64) (h : 0 ≤ u.toInt) : (u &&& (9223372036854775807 : Int64)) = u := by
  have h1 := c_maskL u (9223372036854775807 : Int64) 63 (by decide) (by decide)
  have h3 := rng64 u
  apply Int64.toInt_inj.mp
  omega
theorem own_neg (u : Int64) (h : 0 ≤ u.toInt) : (u ||| (-9223372036854775808 : Int64)) < (0 : Int64) := by
  rw [Int64.lt_iff_toInt_lt, own_or u h]
  have h3 := rng64 u
  have h4 : (0 : Int64).toInt = 0 := by decide
  omega
theorem own_nneg (u : Int64) (h : 0 ≤ u.toInt) : ¬ (u < (0 : Int64)) := by
  rw [Int64.lt_iff_toInt_lt]
  have h4 : (0 : Int64).toInt = 0 := by decide
  omega
theorem own_pn0 : plainName "com/example/forseti/forseti/core/LetterClasses" = true := by first | (simp [plainName, overriddenIn]; done) | decide +kernel
theorem own_d1_0 : decode prog_59_method_5_code 0 = .ok (.iload_n 2, 1) := by decide +kernel
theorem own_d1_1 : decode prog_59_method_5_code 1 = .ok (.ifCond .eq 11, 3) := by decide +kernel
theorem own_d1_4 : decode prog_59_method_5_code 4 = .ok (.lload_n 0, 1) := by decide +kernel
theorem own_d1_5 : decode prog_59_method_5_code 5 = .ok (.ldc2_w 37, 3) := by decide +kernel
theorem own_d1_8 : decode prog_59_method_5_code 8 = .ok (.lor, 1) := by decide +kernel
theorem own_d1_9 : decode prog_59_method_5_code 9 = .ok (.goto 4, 3) := by decide +kernel
theorem own_d1_12 : decode prog_59_method_5_code 12 = .ok (.lload_n 0, 1) := by decide +kernel
theorem own_d1_13 : decode prog_59_method_5_code 13 = .ok (.lreturn, 1) := by decide +kernel
def own_Q1 (Z : State) (xq : Int64) (xp : Int32) (h0 : Heap) (n0 : Nat) (v : Option Value) (h : Heap) (L : List Loc) : Prop := v = some (.long (own_of xq xp)) ∧ Fr n0 L ∧ h = h0
theorem own_ef1 (m : MethodId) (xq : Int64) (xp : Int32) : entryFrame m #[(.long xq), (.int xp)] 3 = mkF m 0 #[.val (.long xq), .second, .val (.int xp)] [] := by first | (simp [entryFrame, mkF, argsToLocals, Value.category]; done) | rfl
set_option maxRecDepth 65536 in
set_option maxHeartbeats 40000000 in
theorem own_rm1 (l : Launch) (Z : State) (a0 : Array Value) (hw : ∀ d ∈ tables_1, d.before a0 Z = true) (ws : List Jvm.Cond) (xq : Int64) (xp : Int32) (h0 : Heap) (n0 : Nat) (Z0 : n0 ≤ h0.size)  :
    MetFree l (⟨"com/example/forseti/forseti/core/LetterClasses", "of", "(JZ)J"⟩ : MethodName) (head1 (Jvm.Cond.code (⟨"com/example/forseti/forseti/core/LetterClasses", "of", "(JZ)J"⟩ : MethodName) prog_59_method_5_code 3 (some .long) :: ws) ({ frames := 0, cells := 0, slots := 0, locals := 0 } : Room)) (fun a U => a = #[(.long xq), (.int xp)] ∧ Z.Warmed39 U.vm ∧ U.heap = h0) (fun _ _ _ _ _ => True) (fun _ U o U' => ∃ v L, o = .returned v ∧ own_Q1 Z xq xp h0 n0 v U'.heap L ∧ FrameEnd U o U' L ({ frames := 0, cells := 0, slots := 0, locals := 0 } : Room).cells ({ frames := 0, cells := 0, slots := 0, locals := 0 } : Room).slots) := by
  refine MetFree.of_bodySF (plainFor_of_name own_pn0) hisR ?_
  intro p e s m args below meth c s₁ Bd hml0 hP hK
  obtain ⟨rfl, hZ, hh⟩ := hP
  have hx := Bd.exec
  have hby := Bd.bytes
  have hml : c.maxLocals = 3 := hml0
  have hown : s.vm.findClass "com/example/forseti/forseti/core/LetterClasses" = some m.cls := findClass_of_methodNamed Bd.named
  have hnm := (name_of_methodNamed Bd.named Bd.method).1
  have X0 : Stand p l e ({ frames := 0, cells := 0, slots := 0, locals := 0 } : Room) s m #[(.long xq), (.int xp)] below meth c s₁ [] 0 0 := Stand.of_body Bd
  have e0 : s₁.heap = h0 := by rw [← hh, Bd.state]; rfl
  have N0 := Fr.nil n0
  have pre0 : ∀ t, Steps p.tables e below (s₁.setTop (mkF m 0 #[.val (.long xq), .second, .val (.int xp)] [])) t → Steps p.tables e below (s₁.setTop (entryFrame m #[(.long xq), (.int xp)] 3)) t := fun t k => castTop (own_ef1 m xq xp) k
  have pre1 : ∀ t, Steps p.tables e below (s₁.setTop (mkF m 1 #[.val (.long xq), .second, .val (.int xp)] [(.int xp)])) t → Steps p.tables e below (s₁.setTop (entryFrame m #[(.long xq), (.int xp)] 3)) t := by
    intro t k
    refine pre0 _ ?_
    show Steps p.tables e below (s₁.setTop (mkF m 0 #[.val (.long xq), .second, .val (.int xp)] [])) _
    refine XS.iloadN X0.here hx rfl (hb hby own_d1_0) rfl ?_
    exact k
  by_cases hc1 : xp = (0 : Int32)
  · obtain ⟨fs, hr, hrun, hended, hW, hsame⟩ := X0.leave (v := some (.long xq)) (fun h => by rw [Bd.returns] at h; cases h)
    have ev2 : (own_of xq xp) = xq := by
      simp [own_of, hc1]
    refine ⟨_, _, pre1 _ ?_, hrun, hended, _, _, rfl, ?_, ⟨_, rfl⟩, hW, hsame.mono (by decide) (by decide)⟩
    · show Steps p.tables e below (s₁.setTop (mkF m 1 #[.val (.long xq), .second, .val (.int xp)] [(.int xp)])) _
      refine XS.ifYes X0.here hx rfl (pc0 := 1) (pc' := 12) rfl (hb hby own_d1_1) rfl ((if0 _ _).trans (teq hc1).1) (by decide) (by decide) ?_
      show Steps p.tables e below (s₁.setTop (mkF m 12 #[.val (.long xq), .second, .val (.int xp)] [])) _
      refine XS.lloadN X0.here hx rfl (hb hby own_d1_12) rfl ?_
      show Steps p.tables e below (s₁.setTop (mkF m 13 #[.val (.long xq), .second, .val (.int xp)] [(.long xq)])) _
      exact retJ X0 hx Bd.returns (hb hby own_d1_13) hr
    · show own_Q1 Z xq xp h0 n0 _ s₁.heap _
      rw [e0]
      exact ⟨(by rw [ev2]), N0, rfl⟩
  · obtain ⟨fs, hr, hrun, hended, hW, hsame⟩ := X0.leave (v := some (.long (xq ||| (-9223372036854775808 : Int64)))) (fun h => by rw [Bd.returns] at h; cases h)
    have ev3 : (own_of xq xp) = (xq ||| (-9223372036854775808 : Int64)) := by
      simp [own_of, hc1]
    refine ⟨_, _, pre1 _ ?_, hrun, hended, _, _, rfl, ?_, ⟨_, rfl⟩, hW, hsame.mono (by decide) (by decide)⟩
    · show Steps p.tables e below (s₁.setTop (mkF m 1 #[.val (.long xq), .second, .val (.int xp)] [(.int xp)])) _
      refine XS.ifNo X0.here hx rfl (hb hby own_d1_1) rfl ((if0 _ _).trans (feq hc1).1) ?_
      show Steps p.tables e below (s₁.setTop (mkF m 4 #[.val (.long xq), .second, .val (.int xp)] [])) _
      refine XS.lloadN X0.here hx rfl (hb hby own_d1_4) rfl ?_
      show Steps p.tables e below (s₁.setTop (mkF m 5 #[.val (.long xq), .second, .val (.int xp)] [(.long xq)])) _
      refine X0.ldc2Long hx hown (mvT hZ (hw _ (List.mem_of_getElem? (i := 5) rfl))) (g := (mkF m 5 #[.val (.long xq), .second, .val (.int xp)] [(.long xq)])) rfl (hb hby own_d1_5) _ ?_
      show Steps p.tables e below (s₁.setTop (mkF m 8 #[.val (.long xq), .second, .val (.int xp)] [(.long (-9223372036854775808 : Int64)), (.long xq)])) _
      refine XS.lor X0.here hx rfl (hb hby own_d1_8) rfl ?_
      show Steps p.tables e below (s₁.setTop (mkF m 9 #[.val (.long xq), .second, .val (.int xp)] [(.long (xq ||| (-9223372036854775808 : Int64)))])) _
      refine XS.goto X0.here hx rfl (pc0 := 9) (pc' := 13) rfl (hb hby own_d1_9) (by decide) (by decide) ?_
      show Steps p.tables e below (s₁.setTop (mkF m 13 #[.val (.long xq), .second, .val (.int xp)] [(.long (xq ||| (-9223372036854775808 : Int64)))])) _
      exact retJ X0 hx Bd.returns (hb hby own_d1_13) hr
    · show own_Q1 Z xq xp h0 n0 _ s₁.heap _
      rw [e0]
      exact ⟨(by rw [ev3]), N0, rfl⟩
theorem own_pn1 : plainName "com/example/forseti/forseti/core/LetterClassesOfPinLaw" = true := by first | (simp [plainName, overriddenIn]; done) | decide +kernel
theorem own_pd0 : parseMethodDescriptor "(JZ)J" = some ⟨[.long, .boolean], some .long⟩ := by decide +kernel
def own_Q0 (Z : State) (xt : Int64) (xflag : Int32) (h0 : Heap) (n0 : Nat) (v : Option Value) (h : Heap) (L : List Loc) : Prop := v = some (.int (1 : Int32)) ∧ Fr n0 L
theorem own_ef0 (m : MethodId) (xt : Int64) (xflag : Int32) : entryFrame m #[(.long xt), (.int xflag)] maxLocals = mkF m 0 #[.val (.long xt), .second, .val (.int xflag), .unset, .unset, .unset, .unset, .unset, .unset, .unset] [] := by first | (simp [entryFrame, mkF, argsToLocals, Value.category, maxLocals]; done) | rfl
set_option maxRecDepth 65536 in
set_option maxHeartbeats 40000000 in
theorem own_rm0 (l : Launch) (Z : State) (a0 : Array Value) (hw : ∀ d ∈ tables_1, d.before a0 Z = true) (ws : List Jvm.Cond) (xt : Int64) (xflag : Int32) (h0 : Heap) (n0 : Nat) (Z0 : n0 ≤ h0.size)  :
    MetFree l x (head1 (Jvm.Cond.code x code maxLocals ret :: ws) room_1) (fun a U => a = #[(.long xt), (.int xflag)] ∧ Z.Warmed39 U.vm ∧ U.heap = h0) (fun _ _ _ _ _ => True) (fun _ U o U' => ∃ v L, o = .returned v ∧ own_Q0 Z xt xflag h0 n0 v U'.heap L ∧ FrameEnd U o U' L room_1.cells room_1.slots) := by
  refine MetFree.of_bodySF (plainFor_of_name own_pn1) hisR ?_
  intro p e s m args below meth c s₁ Bd hml0 hP hK
  obtain ⟨rfl, hZ, hh⟩ := hP
  have hx := Bd.exec
  have hby := Bd.bytes
  have hml : c.maxLocals = 10 := hml0
  have hown : s.vm.findClass "com/example/forseti/forseti/core/LetterClassesOfPinLaw" = some m.cls := findClass_of_methodNamed Bd.named
  have hnm := (name_of_methodNamed Bd.named Bd.method).1
  have X0 : Stand p l e room_1 s m #[(.long xt), (.int xflag)] below meth c s₁ [] 0 0 := Stand.of_body Bd
  have e0 : s₁.heap = h0 := by rw [← hh, Bd.state]; rfl
  have N0 := Fr.nil n0
  have pre0 : ∀ t, Steps p.tables e below (s₁.setTop (mkF m 0 #[.val (.long xt), .second, .val (.int xflag), .unset, .unset, .unset, .unset, .unset, .unset, .unset] [])) t → Steps p.tables e below (s₁.setTop (entryFrame m #[(.long xt), (.int xflag)] maxLocals)) t := fun t k => castTop (own_ef0 m xt xflag) k
  have K0 : Keep h0 h0 [] := Keep.refl _ _
  obtain ⟨v5, hv5⟩ : ∃ w : Int64, w = (xt &&& (9223372036854775807 : Int64)) := ⟨_, rfl⟩
  have pre1 : ∀ t, Steps p.tables e below (s₁.setTop (mkF m 6 #[.val (.long xt), .second, .val (.int xflag), .val (.long v5), .second, .unset, .unset, .unset, .unset, .unset] [])) t → Steps p.tables e below (s₁.setTop (entryFrame m #[(.long xt), (.int xflag)] maxLocals)) t := by
    intro t k
    rw [hv5] at k
    refine pre0 _ ?_
    show Steps p.tables e below (s₁.setTop (mkF m 0 #[.val (.long xt), .second, .val (.int xflag), .unset, .unset, .unset, .unset, .unset, .unset, .unset] [])) _
    refine XS.lloadN X0.here hx rfl (hb hby at_0) rfl ?_
    show Steps p.tables e below (s₁.setTop (mkF m 1 #[.val (.long xt), .second, .val (.int xflag), .unset, .unset, .unset, .unset, .unset, .unset, .unset] [(.long xt)])) _
    refine X0.ldc2Long hx hown (mvT hZ (hw _ (List.mem_of_getElem? (i := 0) rfl))) (g := (mkF m 1 #[.val (.long xt), .second, .val (.int xflag), .unset, .unset, .unset, .unset, .unset, .unset, .unset] [(.long xt)])) rfl (hb hby at_1) _ ?_
    show Steps p.tables e below (s₁.setTop (mkF m 4 #[.val (.long xt), .second, .val (.int xflag), .unset, .unset, .unset, .unset, .unset, .unset, .unset] [(.long (9223372036854775807 : Int64)), (.long xt)])) _
    refine XS.land X0.here hx rfl (hb hby at_4) rfl ?_
    show Steps p.tables e below (s₁.setTop (mkF m 5 #[.val (.long xt), .second, .val (.int xflag), .unset, .unset, .unset, .unset, .unset, .unset, .unset] [(.long (xt &&& (9223372036854775807 : Int64)))])) _
    refine XS.lstoreN X0.here hx rfl (hb hby at_5) rfl (l' := #[.val (.long xt), .second, .val (.int xflag), .val (.long (xt &&& (9223372036854775807 : Int64))), .second, .unset, .unset, .unset, .unset, .unset]) rfl ?_
    exact k
  have hpos : 0 ≤ v5.toInt := by rw [hv5]; exact own_rng xt
  have pre2 : ∀ t, Steps p.tables e below (s₁.setTop (mkF m 9 #[.val (.long xt), .second, .val (.int xflag), .val (.long v5), .second, .unset, .unset, .unset, .unset, .unset] [(.int (xflag &&& (1 : Int32)))])) t → Steps p.tables e below (s₁.setTop (entryFrame m #[(.long xt), (.int xflag)] maxLocals)) t := by
    intro t k
    refine pre1 _ ?_
    show Steps p.tables e below (s₁.setTop (mkF m 6 #[.val (.long xt), .second, .val (.int xflag), .val (.long v5), .second, .unset, .unset, .unset, .unset, .unset] [])) _
    refine XS.iloadN X0.here hx rfl (hb hby at_6) rfl ?_
    show Steps p.tables e below (s₁.setTop (mkF m 7 #[.val (.long xt), .second, .val (.int xflag), .val (.long v5), .second, .unset, .unset, .unset, .unset, .unset] [(.int xflag)])) _
    refine XS.iconst X0.here hx rfl (hb hby at_7) ?_
    show Steps p.tables e below (s₁.setTop (mkF m 8 #[.val (.long xt), .second, .val (.int xflag), .val (.long v5), .second, .unset, .unset, .unset, .unset, .unset] [(.int (1 : Int32)), (.int xflag)])) _
    refine XS.iand X0.here hx rfl (hb hby at_8) rfl ?_
    exact k
  by_cases hc9 : (xflag &&& (1 : Int32)) = (0 : Int32)
  · obtain ⟨_, _, ⟨T3, L3, k3, n3⟩, -, X3, ⟨Lc3, hQ3, l3, y3, z3⟩, st3⟩ := Jvm.LawKit.callS X0 hx (y := (⟨"com/example/forseti/forseti/core/LetterClasses", "of", "(JZ)J"⟩ : MethodName)) hown (mvT hZ (hw _ (List.mem_of_getElem? (i := 1) rfl))) (mvT hZ (hw _ (List.mem_of_getElem? (i := 2) rfl))) (mvT hZ (hw _ (List.mem_of_getElem? (i := 3) rfl))) (mvT hZ (hw _ (List.mem_of_getElem? (i := 4) rfl))) (by decide) (backOf (W := 0) (own_rm1 l Z a0 hw [] v5 (0 : Int32) h0 n0 Z0 ) hZ (hw _ (List.mem_of_getElem? (i := 4) rfl)) (hw _ (List.mem_of_getElem? (i := 3) rfl)) (by decide) (by decide)) (g := (mkF m 22 #[.val (.long xt), .second, .val (.int xflag), .val (.long v5), .second, .val (.int (0 : Int32)), .unset, .unset, .unset, .unset] [(.int (0 : Int32)), (.long v5)])) rfl (by rw [hml]; rfl) (argsL := [(.long v5), (.int (0 : Int32))]) (rest := []) (lenOf own_pd0 rfl) rfl (by show 2 * 0 + _ ≤ _; exact Nat.le_of_eq rfl) (hb hby at_22) (fun _ _ => ⟨rfl, e0, (by decide : 0 + 0 ≤ _), (by decide : 0 + 0 ≤ _)⟩)
    dsimp only [Pt.U, Pt.locs, Pt.cells, Pt.slots] at X3 l3 y3 z3 st3 hQ3
    subst l3 y3 z3
    obtain ⟨rfl, N3q, eh3⟩ := hQ3
    have N3 := Fr.app N0 N3q
    obtain ⟨cv, hcv⟩ : ∃ w : Int64, w = (own_of v5 (0 : Int32)) := ⟨_, rfl⟩
    have pre4 : ∀ t, Steps p.tables e below (T3.setTop (mkF m 25 #[.val (.long xt), .second, .val (.int xflag), .val (.long v5), .second, .val (.int (0 : Int32)), .unset, .unset, .unset, .unset] [(.long cv)])) t → Steps p.tables e below (s₁.setTop (entryFrame m #[(.long xt), (.int xflag)] maxLocals)) t := by
      intro t k
      rw [hcv] at k
      refine pre2 _ ?_
      show Steps p.tables e below (s₁.setTop (mkF m 9 #[.val (.long xt), .second, .val (.int xflag), .val (.long v5), .second, .unset, .unset, .unset, .unset, .unset] [(.int (xflag &&& (1 : Int32)))])) _
      refine XS.ifYes X0.here hx rfl (pc0 := 9) (pc' := 16) rfl (hb hby at_9) rfl ((if0 _ _).trans (teq hc9).1) (by decide) (by decide) ?_
      show Steps p.tables e below (s₁.setTop (mkF m 16 #[.val (.long xt), .second, .val (.int xflag), .val (.long v5), .second, .unset, .unset, .unset, .unset, .unset] [])) _
      refine XS.iconst X0.here hx rfl (hb hby at_16) ?_
      show Steps p.tables e below (s₁.setTop (mkF m 17 #[.val (.long xt), .second, .val (.int xflag), .val (.long v5), .second, .unset, .unset, .unset, .unset, .unset] [(.int (0 : Int32))])) _
      refine XS.istore X0.here hx rfl (hb hby at_17) rfl (l' := #[.val (.long xt), .second, .val (.int xflag), .val (.long v5), .second, .val (.int (0 : Int32)), .unset, .unset, .unset, .unset]) rfl ?_
      show Steps p.tables e below (s₁.setTop (mkF m 19 #[.val (.long xt), .second, .val (.int xflag), .val (.long v5), .second, .val (.int (0 : Int32)), .unset, .unset, .unset, .unset] [])) _
      refine XS.lloadN X0.here hx rfl (hb hby at_19) rfl ?_
      show Steps p.tables e below (s₁.setTop (mkF m 20 #[.val (.long xt), .second, .val (.int xflag), .val (.long v5), .second, .val (.int (0 : Int32)), .unset, .unset, .unset, .unset] [(.long v5)])) _
      refine XS.iload X0.here hx rfl (hb hby at_20) rfl ?_
      show Steps p.tables e below (s₁.setTop (mkF m 22 #[.val (.long xt), .second, .val (.int xflag), .val (.long v5), .second, .val (.int (0 : Int32)), .unset, .unset, .unset, .unset] [(.int (0 : Int32)), (.long v5)])) _
      refine st3 _ ?_
      exact k
    simp only [own_of, if_pos, if_neg, show ¬ ((1 : Int32) = 0) from by decide, if_false, if_true, reduceIte] at hcv
    have hd5 : (cv &&& (9223372036854775807 : Int64)) = v5 := (by rw [hcv]; exact own_back0 _ hpos)
    have hd6 : ¬ (cv < (0 : Int64)) := (by rw [hcv]; exact own_nneg _ hpos)
    have hd7 : ¬ ((1 : Int32) = (0 : Int32)) := (by decide)
    have hd8 : ¬ ((1 : Int32) = (0 : Int32)) := (by decide)
    obtain ⟨fs, hr, hrun, hended, hW, hsame⟩ := X3.leave (v := some (.int (1 : Int32))) (fun h => by rw [Bd.returns] at h; cases h)
    refine ⟨_, _, pre4 _ ?_, hrun, hended, _, _, rfl, ?_, ⟨_, rfl⟩, hW, hsame.mono (by decide) (by decide)⟩
    · show Steps p.tables e below (T3.setTop (mkF m 25 #[.val (.long xt), .second, .val (.int xflag), .val (.long v5), .second, .val (.int (0 : Int32)), .unset, .unset, .unset, .unset] [(.long cv)])) _
      refine XS.lstore X3.here hx rfl (hb hby at_25) rfl (l' := #[.val (.long xt), .second, .val (.int xflag), .val (.long v5), .second, .val (.int (0 : Int32)), .val (.long cv), .second, .unset, .unset]) rfl ?_
      show Steps p.tables e below (T3.setTop (mkF m 27 #[.val (.long xt), .second, .val (.int xflag), .val (.long v5), .second, .val (.int (0 : Int32)), .val (.long cv), .second, .unset, .unset] [])) _
      refine XS.lload X3.here hx rfl (hb hby at_27) rfl ?_
      show Steps p.tables e below (T3.setTop (mkF m 29 #[.val (.long xt), .second, .val (.int xflag), .val (.long v5), .second, .val (.int (0 : Int32)), .val (.long cv), .second, .unset, .unset] [(.long cv)])) _
      refine X3.ldc2Long hx hown (mvT hZ (hw _ (List.mem_of_getElem? (i := 0) rfl))) (g := (mkF m 29 #[.val (.long xt), .second, .val (.int xflag), .val (.long v5), .second, .val (.int (0 : Int32)), .val (.long cv), .second, .unset, .unset] [(.long cv)])) rfl (hb hby at_29) _ ?_
      show Steps p.tables e below (T3.setTop (mkF m 32 #[.val (.long xt), .second, .val (.int xflag), .val (.long v5), .second, .val (.int (0 : Int32)), .val (.long cv), .second, .unset, .unset] [(.long (9223372036854775807 : Int64)), (.long cv)])) _
      refine XS.land X3.here hx rfl (hb hby at_32) rfl ?_
      show Steps p.tables e below (T3.setTop (mkF m 33 #[.val (.long xt), .second, .val (.int xflag), .val (.long v5), .second, .val (.int (0 : Int32)), .val (.long cv), .second, .unset, .unset] [(.long (cv &&& (9223372036854775807 : Int64)))])) _
      refine XS.lloadN X3.here hx rfl (hb hby at_33) rfl ?_
      show Steps p.tables e below (T3.setTop (mkF m 34 #[.val (.long xt), .second, .val (.int xflag), .val (.long v5), .second, .val (.int (0 : Int32)), .val (.long cv), .second, .unset, .unset] [(.long v5), (.long (cv &&& (9223372036854775807 : Int64)))])) _
      refine XS.lcmp X3.here hx rfl (hb hby at_34) rfl ?_
      show Steps p.tables e below (T3.setTop (mkF m 35 #[.val (.long xt), .second, .val (.int xflag), .val (.long v5), .second, .val (.int (0 : Int32)), .val (.long cv), .second, .unset, .unset] [(.int (lcmpW (cv &&& (9223372036854775807 : Int64)) v5))])) _
      refine XS.ifNo X3.here hx rfl (hb hby at_35) rfl ((if0 _ _).trans (teq ((lw_eq (cv &&& (9223372036854775807 : Int64)) v5).mpr hd5)).2) ?_
      show Steps p.tables e below (T3.setTop (mkF m 38 #[.val (.long xt), .second, .val (.int xflag), .val (.long v5), .second, .val (.int (0 : Int32)), .val (.long cv), .second, .unset, .unset] [])) _
      refine XS.iconst X3.here hx rfl (hb hby at_38) ?_
      show Steps p.tables e below (T3.setTop (mkF m 39 #[.val (.long xt), .second, .val (.int xflag), .val (.long v5), .second, .val (.int (0 : Int32)), .val (.long cv), .second, .unset, .unset] [(.int (1 : Int32))])) _
      refine XS.goto X3.here hx rfl (pc0 := 39) (pc' := 43) rfl (hb hby at_39) (by decide) (by decide) ?_
      show Steps p.tables e below (T3.setTop (mkF m 43 #[.val (.long xt), .second, .val (.int xflag), .val (.long v5), .second, .val (.int (0 : Int32)), .val (.long cv), .second, .unset, .unset] [(.int (1 : Int32))])) _
      refine XS.istore X3.here hx rfl (hb hby at_43) rfl (l' := #[.val (.long xt), .second, .val (.int xflag), .val (.long v5), .second, .val (.int (0 : Int32)), .val (.long cv), .second, .val (.int (1 : Int32)), .unset]) rfl ?_
      show Steps p.tables e below (T3.setTop (mkF m 45 #[.val (.long xt), .second, .val (.int xflag), .val (.long v5), .second, .val (.int (0 : Int32)), .val (.long cv), .second, .val (.int (1 : Int32)), .unset] [])) _
      refine XS.lload X3.here hx rfl (hb hby at_45) rfl ?_
      show Steps p.tables e below (T3.setTop (mkF m 47 #[.val (.long xt), .second, .val (.int xflag), .val (.long v5), .second, .val (.int (0 : Int32)), .val (.long cv), .second, .val (.int (1 : Int32)), .unset] [(.long cv)])) _
      refine XS.lconst X3.here hx rfl (hb hby at_47) ?_
      show Steps p.tables e below (T3.setTop (mkF m 48 #[.val (.long xt), .second, .val (.int xflag), .val (.long v5), .second, .val (.int (0 : Int32)), .val (.long cv), .second, .val (.int (1 : Int32)), .unset] [(.long (0 : Int64)), (.long cv)])) _
      refine XS.lcmp X3.here hx rfl (hb hby at_48) rfl ?_
      show Steps p.tables e below (T3.setTop (mkF m 49 #[.val (.long xt), .second, .val (.int xflag), .val (.long v5), .second, .val (.int (0 : Int32)), .val (.long cv), .second, .val (.int (1 : Int32)), .unset] [(.int (lcmpW cv (0 : Int64)))])) _
      refine XS.ifYes X3.here hx rfl (pc0 := 49) (pc' := 56) rfl (hb hby at_49) rfl ((if0 _ _).trans (flt (fun z => hd6 ((lw_lt cv (0 : Int64)).mp z))).2.1) (by decide) (by decide) ?_
      show Steps p.tables e below (T3.setTop (mkF m 56 #[.val (.long xt), .second, .val (.int xflag), .val (.long v5), .second, .val (.int (0 : Int32)), .val (.long cv), .second, .val (.int (1 : Int32)), .unset] [])) _
      refine XS.iconst X3.here hx rfl (hb hby at_56) ?_
      show Steps p.tables e below (T3.setTop (mkF m 57 #[.val (.long xt), .second, .val (.int xflag), .val (.long v5), .second, .val (.int (0 : Int32)), .val (.long cv), .second, .val (.int (1 : Int32)), .unset] [(.int (0 : Int32))])) _
      refine XS.iload X3.here hx rfl (hb hby at_57) rfl ?_
      show Steps p.tables e below (T3.setTop (mkF m 59 #[.val (.long xt), .second, .val (.int xflag), .val (.long v5), .second, .val (.int (0 : Int32)), .val (.long cv), .second, .val (.int (1 : Int32)), .unset] [(.int (0 : Int32)), (.int (0 : Int32))])) _
      refine XS.icmpNo X3.here hx rfl (hb hby at_59) rfl (teq rfl).2 ?_
      show Steps p.tables e below (T3.setTop (mkF m 62 #[.val (.long xt), .second, .val (.int xflag), .val (.long v5), .second, .val (.int (0 : Int32)), .val (.long cv), .second, .val (.int (1 : Int32)), .unset] [])) _
      refine XS.iconst X3.here hx rfl (hb hby at_62) ?_
      show Steps p.tables e below (T3.setTop (mkF m 63 #[.val (.long xt), .second, .val (.int xflag), .val (.long v5), .second, .val (.int (0 : Int32)), .val (.long cv), .second, .val (.int (1 : Int32)), .unset] [(.int (1 : Int32))])) _
      refine XS.goto X3.here hx rfl (pc0 := 63) (pc' := 67) rfl (hb hby at_63) (by decide) (by decide) ?_
      show Steps p.tables e below (T3.setTop (mkF m 67 #[.val (.long xt), .second, .val (.int xflag), .val (.long v5), .second, .val (.int (0 : Int32)), .val (.long cv), .second, .val (.int (1 : Int32)), .unset] [(.int (1 : Int32))])) _
      refine XS.istore X3.here hx rfl (hb hby at_67) rfl (l' := #[.val (.long xt), .second, .val (.int xflag), .val (.long v5), .second, .val (.int (0 : Int32)), .val (.long cv), .second, .val (.int (1 : Int32)), .val (.int (1 : Int32))]) rfl ?_
      show Steps p.tables e below (T3.setTop (mkF m 69 #[.val (.long xt), .second, .val (.int xflag), .val (.long v5), .second, .val (.int (0 : Int32)), .val (.long cv), .second, .val (.int (1 : Int32)), .val (.int (1 : Int32))] [])) _
      refine XS.iload X3.here hx rfl (hb hby at_69) rfl ?_
      show Steps p.tables e below (T3.setTop (mkF m 71 #[.val (.long xt), .second, .val (.int xflag), .val (.long v5), .second, .val (.int (0 : Int32)), .val (.long cv), .second, .val (.int (1 : Int32)), .val (.int (1 : Int32))] [(.int (1 : Int32))])) _
      refine XS.ifNo X3.here hx rfl (hb hby at_71) rfl ((if0 _ _).trans (feq hd7).1) ?_
      show Steps p.tables e below (T3.setTop (mkF m 74 #[.val (.long xt), .second, .val (.int xflag), .val (.long v5), .second, .val (.int (0 : Int32)), .val (.long cv), .second, .val (.int (1 : Int32)), .val (.int (1 : Int32))] [])) _
      refine XS.iload X3.here hx rfl (hb hby at_74) rfl ?_
      show Steps p.tables e below (T3.setTop (mkF m 76 #[.val (.long xt), .second, .val (.int xflag), .val (.long v5), .second, .val (.int (0 : Int32)), .val (.long cv), .second, .val (.int (1 : Int32)), .val (.int (1 : Int32))] [(.int (1 : Int32))])) _
      refine XS.ifNo X3.here hx rfl (hb hby at_76) rfl ((if0 _ _).trans (feq hd8).1) ?_
      show Steps p.tables e below (T3.setTop (mkF m 79 #[.val (.long xt), .second, .val (.int xflag), .val (.long v5), .second, .val (.int (0 : Int32)), .val (.long cv), .second, .val (.int (1 : Int32)), .val (.int (1 : Int32))] [])) _
      refine XS.iconst X3.here hx rfl (hb hby at_79) ?_
      show Steps p.tables e below (T3.setTop (mkF m 80 #[.val (.long xt), .second, .val (.int xflag), .val (.long v5), .second, .val (.int (0 : Int32)), .val (.long cv), .second, .val (.int (1 : Int32)), .val (.int (1 : Int32))] [(.int (1 : Int32))])) _
      refine XS.goto X3.here hx rfl (pc0 := 80) (pc' := 84) rfl (hb hby at_80) (by decide) (by decide) ?_
      show Steps p.tables e below (T3.setTop (mkF m 84 #[.val (.long xt), .second, .val (.int xflag), .val (.long v5), .second, .val (.int (0 : Int32)), .val (.long cv), .second, .val (.int (1 : Int32)), .val (.int (1 : Int32))] [(.int (1 : Int32))])) _
      exact retN X3 hx (t := .boolean) Bd.returns (by simp) (hb hby at_84) hr
    · show own_Q0 Z xt xflag h0 n0 _ T3.heap _
      rw [eh3]
      exact ⟨rfl, N3⟩
  · obtain ⟨_, _, ⟨T9, L9, k9, n9⟩, -, X9, ⟨Lc9, hQ9, l9, y9, z9⟩, st9⟩ := Jvm.LawKit.callS X0 hx (y := (⟨"com/example/forseti/forseti/core/LetterClasses", "of", "(JZ)J"⟩ : MethodName)) hown (mvT hZ (hw _ (List.mem_of_getElem? (i := 1) rfl))) (mvT hZ (hw _ (List.mem_of_getElem? (i := 2) rfl))) (mvT hZ (hw _ (List.mem_of_getElem? (i := 3) rfl))) (mvT hZ (hw _ (List.mem_of_getElem? (i := 4) rfl))) (by decide) (backOf (W := 0) (own_rm1 l Z a0 hw [] v5 (1 : Int32) h0 n0 Z0 ) hZ (hw _ (List.mem_of_getElem? (i := 4) rfl)) (hw _ (List.mem_of_getElem? (i := 3) rfl)) (by decide) (by decide)) (g := (mkF m 22 #[.val (.long xt), .second, .val (.int xflag), .val (.long v5), .second, .val (.int (1 : Int32)), .unset, .unset, .unset, .unset] [(.int (1 : Int32)), (.long v5)])) rfl (by rw [hml]; rfl) (argsL := [(.long v5), (.int (1 : Int32))]) (rest := []) (lenOf own_pd0 rfl) rfl (by show 2 * 0 + _ ≤ _; exact Nat.le_of_eq rfl) (hb hby at_22) (fun _ _ => ⟨rfl, e0, (by decide : 0 + 0 ≤ _), (by decide : 0 + 0 ≤ _)⟩)
    dsimp only [Pt.U, Pt.locs, Pt.cells, Pt.slots] at X9 l9 y9 z9 st9 hQ9
    subst l9 y9 z9
    obtain ⟨rfl, N9q, eh9⟩ := hQ9
    have N9 := Fr.app N0 N9q
    obtain ⟨cv, hcv⟩ : ∃ w : Int64, w = (own_of v5 (1 : Int32)) := ⟨_, rfl⟩
    have pre10 : ∀ t, Steps p.tables e below (T9.setTop (mkF m 25 #[.val (.long xt), .second, .val (.int xflag), .val (.long v5), .second, .val (.int (1 : Int32)), .unset, .unset, .unset, .unset] [(.long cv)])) t → Steps p.tables e below (s₁.setTop (entryFrame m #[(.long xt), (.int xflag)] maxLocals)) t := by
      intro t k
      rw [hcv] at k
      refine pre2 _ ?_
      show Steps p.tables e below (s₁.setTop (mkF m 9 #[.val (.long xt), .second, .val (.int xflag), .val (.long v5), .second, .unset, .unset, .unset, .unset, .unset] [(.int (xflag &&& (1 : Int32)))])) _
      refine XS.ifNo X0.here hx rfl (hb hby at_9) rfl ((if0 _ _).trans (feq hc9).1) ?_
      show Steps p.tables e below (s₁.setTop (mkF m 12 #[.val (.long xt), .second, .val (.int xflag), .val (.long v5), .second, .unset, .unset, .unset, .unset, .unset] [])) _
      refine XS.iconst X0.here hx rfl (hb hby at_12) ?_
      show Steps p.tables e below (s₁.setTop (mkF m 13 #[.val (.long xt), .second, .val (.int xflag), .val (.long v5), .second, .unset, .unset, .unset, .unset, .unset] [(.int (1 : Int32))])) _
      refine XS.goto X0.here hx rfl (pc0 := 13) (pc' := 17) rfl (hb hby at_13) (by decide) (by decide) ?_
      show Steps p.tables e below (s₁.setTop (mkF m 17 #[.val (.long xt), .second, .val (.int xflag), .val (.long v5), .second, .unset, .unset, .unset, .unset, .unset] [(.int (1 : Int32))])) _
      refine XS.istore X0.here hx rfl (hb hby at_17) rfl (l' := #[.val (.long xt), .second, .val (.int xflag), .val (.long v5), .second, .val (.int (1 : Int32)), .unset, .unset, .unset, .unset]) rfl ?_
      show Steps p.tables e below (s₁.setTop (mkF m 19 #[.val (.long xt), .second, .val (.int xflag), .val (.long v5), .second, .val (.int (1 : Int32)), .unset, .unset, .unset, .unset] [])) _
      refine XS.lloadN X0.here hx rfl (hb hby at_19) rfl ?_
      show Steps p.tables e below (s₁.setTop (mkF m 20 #[.val (.long xt), .second, .val (.int xflag), .val (.long v5), .second, .val (.int (1 : Int32)), .unset, .unset, .unset, .unset] [(.long v5)])) _
      refine XS.iload X0.here hx rfl (hb hby at_20) rfl ?_
      show Steps p.tables e below (s₁.setTop (mkF m 22 #[.val (.long xt), .second, .val (.int xflag), .val (.long v5), .second, .val (.int (1 : Int32)), .unset, .unset, .unset, .unset] [(.int (1 : Int32)), (.long v5)])) _
      refine st9 _ ?_
      exact k
    simp only [own_of, if_pos, if_neg, show ¬ ((1 : Int32) = 0) from by decide, if_false, if_true, reduceIte] at hcv
    have hd11 : (cv &&& (9223372036854775807 : Int64)) = v5 := (by rw [hcv]; exact own_back _ hpos)
    have hd12 : cv < (0 : Int64) := (by rw [hcv]; exact own_neg _ hpos)
    have hd13 : ¬ ((1 : Int32) = (0 : Int32)) := (by decide)
    have hd14 : ¬ ((1 : Int32) = (0 : Int32)) := (by decide)
    obtain ⟨fs, hr, hrun, hended, hW, hsame⟩ := X9.leave (v := some (.int (1 : Int32))) (fun h => by rw [Bd.returns] at h; cases h)
    refine ⟨_, _, pre10 _ ?_, hrun, hended, _, _, rfl, ?_, ⟨_, rfl⟩, hW, hsame.mono (by decide) (by decide)⟩
    · show Steps p.tables e below (T9.setTop (mkF m 25 #[.val (.long xt), .second, .val (.int xflag), .val (.long v5), .second, .val (.int (1 : Int32)), .unset, .unset, .unset, .unset] [(.long cv)])) _
      refine XS.lstore X9.here hx rfl (hb hby at_25) rfl (l' := #[.val (.long xt), .second, .val (.int xflag), .val (.long v5), .second, .val (.int (1 : Int32)), .val (.long cv), .second, .unset, .unset]) rfl ?_
      show Steps p.tables e below (T9.setTop (mkF m 27 #[.val (.long xt), .second, .val (.int xflag), .val (.long v5), .second, .val (.int (1 : Int32)), .val (.long cv), .second, .unset, .unset] [])) _
      refine XS.lload X9.here hx rfl (hb hby at_27) rfl ?_
      show Steps p.tables e below (T9.setTop (mkF m 29 #[.val (.long xt), .second, .val (.int xflag), .val (.long v5), .second, .val (.int (1 : Int32)), .val (.long cv), .second, .unset, .unset] [(.long cv)])) _
      refine X9.ldc2Long hx hown (mvT hZ (hw _ (List.mem_of_getElem? (i := 0) rfl))) (g := (mkF m 29 #[.val (.long xt), .second, .val (.int xflag), .val (.long v5), .second, .val (.int (1 : Int32)), .val (.long cv), .second, .unset, .unset] [(.long cv)])) rfl (hb hby at_29) _ ?_
      show Steps p.tables e below (T9.setTop (mkF m 32 #[.val (.long xt), .second, .val (.int xflag), .val (.long v5), .second, .val (.int (1 : Int32)), .val (.long cv), .second, .unset, .unset] [(.long (9223372036854775807 : Int64)), (.long cv)])) _
      refine XS.land X9.here hx rfl (hb hby at_32) rfl ?_
      show Steps p.tables e below (T9.setTop (mkF m 33 #[.val (.long xt), .second, .val (.int xflag), .val (.long v5), .second, .val (.int (1 : Int32)), .val (.long cv), .second, .unset, .unset] [(.long (cv &&& (9223372036854775807 : Int64)))])) _
      refine XS.lloadN X9.here hx rfl (hb hby at_33) rfl ?_
      show Steps p.tables e below (T9.setTop (mkF m 34 #[.val (.long xt), .second, .val (.int xflag), .val (.long v5), .second, .val (.int (1 : Int32)), .val (.long cv), .second, .unset, .unset] [(.long v5), (.long (cv &&& (9223372036854775807 : Int64)))])) _
      refine XS.lcmp X9.here hx rfl (hb hby at_34) rfl ?_
      show Steps p.tables e below (T9.setTop (mkF m 35 #[.val (.long xt), .second, .val (.int xflag), .val (.long v5), .second, .val (.int (1 : Int32)), .val (.long cv), .second, .unset, .unset] [(.int (lcmpW (cv &&& (9223372036854775807 : Int64)) v5))])) _
      refine XS.ifNo X9.here hx rfl (hb hby at_35) rfl ((if0 _ _).trans (teq ((lw_eq (cv &&& (9223372036854775807 : Int64)) v5).mpr hd11)).2) ?_
      show Steps p.tables e below (T9.setTop (mkF m 38 #[.val (.long xt), .second, .val (.int xflag), .val (.long v5), .second, .val (.int (1 : Int32)), .val (.long cv), .second, .unset, .unset] [])) _
      refine XS.iconst X9.here hx rfl (hb hby at_38) ?_
      show Steps p.tables e below (T9.setTop (mkF m 39 #[.val (.long xt), .second, .val (.int xflag), .val (.long v5), .second, .val (.int (1 : Int32)), .val (.long cv), .second, .unset, .unset] [(.int (1 : Int32))])) _
      refine XS.goto X9.here hx rfl (pc0 := 39) (pc' := 43) rfl (hb hby at_39) (by decide) (by decide) ?_
      show Steps p.tables e below (T9.setTop (mkF m 43 #[.val (.long xt), .second, .val (.int xflag), .val (.long v5), .second, .val (.int (1 : Int32)), .val (.long cv), .second, .unset, .unset] [(.int (1 : Int32))])) _
      refine XS.istore X9.here hx rfl (hb hby at_43) rfl (l' := #[.val (.long xt), .second, .val (.int xflag), .val (.long v5), .second, .val (.int (1 : Int32)), .val (.long cv), .second, .val (.int (1 : Int32)), .unset]) rfl ?_
      show Steps p.tables e below (T9.setTop (mkF m 45 #[.val (.long xt), .second, .val (.int xflag), .val (.long v5), .second, .val (.int (1 : Int32)), .val (.long cv), .second, .val (.int (1 : Int32)), .unset] [])) _
      refine XS.lload X9.here hx rfl (hb hby at_45) rfl ?_
      show Steps p.tables e below (T9.setTop (mkF m 47 #[.val (.long xt), .second, .val (.int xflag), .val (.long v5), .second, .val (.int (1 : Int32)), .val (.long cv), .second, .val (.int (1 : Int32)), .unset] [(.long cv)])) _
      refine XS.lconst X9.here hx rfl (hb hby at_47) ?_
      show Steps p.tables e below (T9.setTop (mkF m 48 #[.val (.long xt), .second, .val (.int xflag), .val (.long v5), .second, .val (.int (1 : Int32)), .val (.long cv), .second, .val (.int (1 : Int32)), .unset] [(.long (0 : Int64)), (.long cv)])) _
      refine XS.lcmp X9.here hx rfl (hb hby at_48) rfl ?_
      show Steps p.tables e below (T9.setTop (mkF m 49 #[.val (.long xt), .second, .val (.int xflag), .val (.long v5), .second, .val (.int (1 : Int32)), .val (.long cv), .second, .val (.int (1 : Int32)), .unset] [(.int (lcmpW cv (0 : Int64)))])) _
      refine XS.ifNo X9.here hx rfl (hb hby at_49) rfl ((if0 _ _).trans (tlt ((lw_lt cv (0 : Int64)).mpr hd12)).2.1) ?_
      show Steps p.tables e below (T9.setTop (mkF m 52 #[.val (.long xt), .second, .val (.int xflag), .val (.long v5), .second, .val (.int (1 : Int32)), .val (.long cv), .second, .val (.int (1 : Int32)), .unset] [])) _
      refine XS.iconst X9.here hx rfl (hb hby at_52) ?_
      show Steps p.tables e below (T9.setTop (mkF m 53 #[.val (.long xt), .second, .val (.int xflag), .val (.long v5), .second, .val (.int (1 : Int32)), .val (.long cv), .second, .val (.int (1 : Int32)), .unset] [(.int (1 : Int32))])) _
      refine XS.goto X9.here hx rfl (pc0 := 53) (pc' := 57) rfl (hb hby at_53) (by decide) (by decide) ?_
      show Steps p.tables e below (T9.setTop (mkF m 57 #[.val (.long xt), .second, .val (.int xflag), .val (.long v5), .second, .val (.int (1 : Int32)), .val (.long cv), .second, .val (.int (1 : Int32)), .unset] [(.int (1 : Int32))])) _
      refine XS.iload X9.here hx rfl (hb hby at_57) rfl ?_
      show Steps p.tables e below (T9.setTop (mkF m 59 #[.val (.long xt), .second, .val (.int xflag), .val (.long v5), .second, .val (.int (1 : Int32)), .val (.long cv), .second, .val (.int (1 : Int32)), .unset] [(.int (1 : Int32)), (.int (1 : Int32))])) _
      refine XS.icmpNo X9.here hx rfl (hb hby at_59) rfl (teq rfl).2 ?_
      show Steps p.tables e below (T9.setTop (mkF m 62 #[.val (.long xt), .second, .val (.int xflag), .val (.long v5), .second, .val (.int (1 : Int32)), .val (.long cv), .second, .val (.int (1 : Int32)), .unset] [])) _
      refine XS.iconst X9.here hx rfl (hb hby at_62) ?_
      show Steps p.tables e below (T9.setTop (mkF m 63 #[.val (.long xt), .second, .val (.int xflag), .val (.long v5), .second, .val (.int (1 : Int32)), .val (.long cv), .second, .val (.int (1 : Int32)), .unset] [(.int (1 : Int32))])) _
      refine XS.goto X9.here hx rfl (pc0 := 63) (pc' := 67) rfl (hb hby at_63) (by decide) (by decide) ?_
      show Steps p.tables e below (T9.setTop (mkF m 67 #[.val (.long xt), .second, .val (.int xflag), .val (.long v5), .second, .val (.int (1 : Int32)), .val (.long cv), .second, .val (.int (1 : Int32)), .unset] [(.int (1 : Int32))])) _
      refine XS.istore X9.here hx rfl (hb hby at_67) rfl (l' := #[.val (.long xt), .second, .val (.int xflag), .val (.long v5), .second, .val (.int (1 : Int32)), .val (.long cv), .second, .val (.int (1 : Int32)), .val (.int (1 : Int32))]) rfl ?_
      show Steps p.tables e below (T9.setTop (mkF m 69 #[.val (.long xt), .second, .val (.int xflag), .val (.long v5), .second, .val (.int (1 : Int32)), .val (.long cv), .second, .val (.int (1 : Int32)), .val (.int (1 : Int32))] [])) _
      refine XS.iload X9.here hx rfl (hb hby at_69) rfl ?_
      show Steps p.tables e below (T9.setTop (mkF m 71 #[.val (.long xt), .second, .val (.int xflag), .val (.long v5), .second, .val (.int (1 : Int32)), .val (.long cv), .second, .val (.int (1 : Int32)), .val (.int (1 : Int32))] [(.int (1 : Int32))])) _
      refine XS.ifNo X9.here hx rfl (hb hby at_71) rfl ((if0 _ _).trans (feq hd13).1) ?_
      show Steps p.tables e below (T9.setTop (mkF m 74 #[.val (.long xt), .second, .val (.int xflag), .val (.long v5), .second, .val (.int (1 : Int32)), .val (.long cv), .second, .val (.int (1 : Int32)), .val (.int (1 : Int32))] [])) _
      refine XS.iload X9.here hx rfl (hb hby at_74) rfl ?_
      show Steps p.tables e below (T9.setTop (mkF m 76 #[.val (.long xt), .second, .val (.int xflag), .val (.long v5), .second, .val (.int (1 : Int32)), .val (.long cv), .second, .val (.int (1 : Int32)), .val (.int (1 : Int32))] [(.int (1 : Int32))])) _
      refine XS.ifNo X9.here hx rfl (hb hby at_76) rfl ((if0 _ _).trans (feq hd14).1) ?_
      show Steps p.tables e below (T9.setTop (mkF m 79 #[.val (.long xt), .second, .val (.int xflag), .val (.long v5), .second, .val (.int (1 : Int32)), .val (.long cv), .second, .val (.int (1 : Int32)), .val (.int (1 : Int32))] [])) _
      refine XS.iconst X9.here hx rfl (hb hby at_79) ?_
      show Steps p.tables e below (T9.setTop (mkF m 80 #[.val (.long xt), .second, .val (.int xflag), .val (.long v5), .second, .val (.int (1 : Int32)), .val (.long cv), .second, .val (.int (1 : Int32)), .val (.int (1 : Int32))] [(.int (1 : Int32))])) _
      refine XS.goto X9.here hx rfl (pc0 := 80) (pc' := 84) rfl (hb hby at_80) (by decide) (by decide) ?_
      show Steps p.tables e below (T9.setTop (mkF m 84 #[.val (.long xt), .second, .val (.int xflag), .val (.long v5), .second, .val (.int (1 : Int32)), .val (.long cv), .second, .val (.int (1 : Int32)), .val (.int (1 : Int32))] [(.int (1 : Int32))])) _
      exact retN X9 hx (t := .boolean) Bd.returns (by simp) (hb hby at_84) hr
    · show own_Q0 Z xt xflag h0 n0 _ T9.heap _
      rw [eh9]
      exact ⟨rfl, N9⟩
set_option maxRecDepth 65536 in
set_option maxHeartbeats 40000000 in
theorem own_comes_1 {Post : Tables → Env → Array Value → State → Outcome → State → Prop} (hpost : ∀ tb e args s v u, (limb_1_1.after args s (.returned v) u = true ∧ limb_1_2.after args s (.returned v) u = true ∧ True) → FrameEnd s (.returned v) u (Jvm.fieldLocs frame_1_writes args s ++ Jvm.arrayLocs frame_1_arrays args s ++ Jvm.staticLocs frame_1_statics s) 0 0 → Post tb e args s (.returned v) u) :
    ArmFor flags0 classFile x code maxLocals ret World_1 tables_1 room_1 Calls_1 rest_1 Pre_1 Post := by
  intro l hfl _ _ p e ha hc hk s m args below hf hA hF happ hP
  obtain ⟨hcalls, hrest, hpre⟩ := hP
  obtain ⟨-, -, -, hnamed, -, -, -, hat⟩ := (Spec.applies_iff hf).mp happ
  obtain ⟨hg, hn⟩ := and_e (Cond.before_iff.mp (show (Jvm.Cond.and given_1 narrow_1).before args s = true from hpre))
  obtain ⟨gg1, gg2⟩ := and_e hg
  obtain ⟨gg3, gg4⟩ := and_e gg2
  obtain ⟨w0, w1, rfl⟩ : ∃ w0 w1 : Value, args = #[w0, w1] := by
    have hs : args.size = 2 := by simpa [Cond.value, given_1] using gg1
    obtain ⟨L⟩ := args
    match L, hs with
    | [w0, w1], _ => exact ⟨w0, w1, rfl⟩
  have hw := fun d (hd : d ∈ tables_1) => atoms_spec (ws := Jvm.Cond.code x code maxLocals ret :: tables_1) hat d (List.mem_cons_of_mem _ hd)
  have hfit : Fit s := fun {y c} hc i hi => by
    obtain ⟨ha, rfl⟩ := Array.getElem?_eq_some_iff.mp hc
    have q := List.all_eq_true.mp ((Array.all_eq_true_iff_forall_mem.mp hF) _ (Array.getElem_mem ha)) i (List.mem_range.mpr hi)
    simpa [Array.getElem?_eq_getElem hi] using q
  obtain ⟨i0, ei0⟩ := isL_v gg3
  obtain rfl : w0 = (.long i0) := Option.some.inj ei0
  obtain ⟨i1, ei1⟩ := is_v gg4
  obtain rfl : w1 = (.int i1) := Option.some.inj ei1
  obtain ⟨n, o, h1, h2, h3, _, L, rfl, ⟨rfl, N⟩, hq⟩ := own_rm0 l s _ hw tables_1 i0 i1  s.heap s.heap.size (Nat.le_refl _)  p e ha hc hk s m _ below hf ((Spec.applies_iff_loose hf).mp happ).1 ⟨rfl, State.Warmed39.refl s, rfl⟩ trivial
  refine ⟨n, _, h1, h2, h3, hpost _ _ _ _ _ _ ⟨Cond.after_iff.mpr rfl, Cond.after_iff.mpr (eq_i res_at (Term.int_eval (1)) rfl), trivial⟩ ⟨hq.1, hq.2.1, (hq.2.2.sift fun y hy => Or.inr (N y hy)).mono (by decide) (by decide)⟩⟩
theorem main_1_1 : Claimed_1_1 := own_comes_1 fun _ _ _ _ _ _ h hF => ⟨h.1, hF⟩
theorem main_1_2 : Claimed_1_2 := own_comes_1 fun _ _ _ _ _ _ h hF => ⟨h.2.1, hF⟩
end Jvm.Pilot.@@N@@
namespace Jvm.Pilot.@@N@@
open Jvm Jvm.ClassFile Sem Op Lib Jvm.Free Jvm.Stand Jvm.Pilot.@@N@@.Jvm.D
/-! MADE BY PROGRAM (witnessworld.py) out of the Statement's table words and the real class files: 9 classes; the members and pool entries that the words name. The judged class is class 1, her method 1. -/
namespace start1
open Jvm.ClassFile
def u (s : String) : CpInfo := .utf8 (stringToUtf16 s)
/-- a pool by its gaps: so many unusable entries, then the entry; so many at the end -/
def gap : Nat → List CpInfo → List CpInfo
  | 0, r => r
  | n + 1, r => .unusable :: gap n r
def poolList (es : List (Nat × CpInfo)) (last : Nat) : List CpInfo := es.foldr (fun e r => gap e.1 (e.2 :: r)) (gap last [])
def pool (es : List (Nat × CpInfo)) (last : Nat) : Array CpInfo := ⟨poolList es last⟩
def fileOf (pool : Array CpInfo) (this : Nat) (attrs : Array Attribute := #[]) (ms : Array MethodInfo := #[]) (fl : Nat := 33) (sup : Nat := 0) (ifs : Array Nat := #[]) (fds : Array FieldInfo := #[]) : ClassFile where
  minorVersion := 0
  majorVersion := 65
  constantPool := pool
  accessFlags := fl
  thisClass := this
  superClass := sup
  interfaces := ifs
  fields := fds
  methods := ms
  attributes := attrs
def plain (name : String) (sup : Option ClassId) : Class where
  name := name
  kind := .ordinary
  loader := none
  accessFlags := 33
  super := sup
  interfaces := #[]
  cf := none
  fields := #[]
  methods := #[]
  instanceTypes := #[]
  staticTypes := #[]
  resolved := #[]
  callSites := []
  init := .initialized
  statics := none
  mirror := none

def pool0 : Array CpInfo := pool [(5, u "<init>"), (0, u "()V"), (1, .class_ 10), (1, u "java/lang/Object")] 113

def k0m0 : Method := { name := "<init>", desc := "()V", sig := { parameters := [], returnType := none }, accessFlags := 1, code := none }
/-- java/lang/Object -/
def k0 : Class := { plain "java/lang/Object" none with
  accessFlags := 33
  interfaces := #[]
  cf := some (fileOf pool0 8 #[] #[{ accessFlags := 1, nameIndex := 5, descriptorIndex := 6, attributes := #[] }] 33 0 #[] #[])
  fields := #[]
  methods := #[k0m0]
  instanceTypes := #[]
  staticTypes := #[]
  resolved := Array.replicate 124 none
  statics := none }

def pool1 : Array CpInfo := pool [(2, .class_ 4), (1, u "java/lang/Object"), (0, u "<init>"), (0, u "()V"), (2, .long 9223372036854775807), (1, .methodref 12 13), (0, .class_ 14), (0, .nameAndType 15 16), (0, u "com/example/forseti/forseti/core/LetterClasses"), (0, u "of"), (0, u "(JZ)J"), (0, .class_ 18), (0, u "com/example/forseti/forseti/core/LetterClassesOfPinLaw"), (2, u "law"), (0, u "(JI)Z")] 3

def k1m0 : Method := { name := "<init>", desc := "()V", sig := { parameters := [], returnType := none }, accessFlags := 1, code := none }
def k1c1 : Code := { maxStack := 4, maxLocals := 10, code := code, exceptionTable := #[], attributes := #[] }
def k1m1 : Method := { name := "law", desc := "(JI)Z", sig := { parameters := [.long, .int], returnType := some .boolean }, accessFlags := 9, code := some k1c1 }
/-- com/example/forseti/forseti/core/LetterClassesOfPinLaw -/
def k1 : Class := { plain "com/example/forseti/forseti/core/LetterClassesOfPinLaw" (some 0) with
  accessFlags := 49
  interfaces := #[]
  cf := some (fileOf pool1 17 #[] #[{ accessFlags := 1, nameIndex := 5, descriptorIndex := 6, attributes := #[] }, { accessFlags := 9, nameIndex := 21, descriptorIndex := 22, attributes := #[] }] 49 2 #[] #[])
  fields := #[]
  methods := #[k1m0, k1m1]
  instanceTypes := #[]
  staticTypes := #[]
  resolved := Array.replicate 26 none
  statics := none }

def pool2 : Array CpInfo := pool [(4, .class_ 6), (1, u "java/lang/Object"), (0, u "<init>"), (0, u "()V"), (4, .class_ 15), (1, u "com/example/forseti/forseti/core/LetterClasses"), (0, u "tests"), (0, u "Ljava/util/List;"), (19, .long 9223372036854775808), (1, u "MAX_TESTS"), (0, u "I"), (13, u "of"), (0, u "(JZ)J")] 2

def k2m0 : Method := { name := "<init>", desc := "()V", sig := { parameters := [], returnType := none }, accessFlags := 0, code := none }
def k2c1 : Code := { maxStack := 4, maxLocals := 3, code := prog_59_method_5_code, exceptionTable := #[], attributes := #[] }
def k2m1 : Method := { name := "of", desc := "(JZ)J", sig := { parameters := [.long, .boolean], returnType := some .long }, accessFlags := 8, code := some k2c1 }
/-- com/example/forseti/forseti/core/LetterClasses -/
def k2 : Class := { plain "com/example/forseti/forseti/core/LetterClasses" (some 0) with
  accessFlags := 48
  interfaces := #[]
  cf := some (fileOf pool2 13 #[] #[{ accessFlags := 0, nameIndex := 7, descriptorIndex := 8, attributes := #[] }, { accessFlags := 8, nameIndex := 54, descriptorIndex := 55, attributes := #[] }] 48 4 #[] #[{ accessFlags := 24, nameIndex := 39, descriptorIndex := 40, attributes := #[] }, { accessFlags := 18, nameIndex := 16, descriptorIndex := 17, attributes := #[] }])
  fields := #[{ name := "MAX_TESTS", type := .int, accessFlags := 24, slot := 0, constantValue := 0 }, { name := "tests", type := (.object "java/util/List"), accessFlags := 18, slot := 0, constantValue := 0 }]
  methods := #[k2m0, k2m1]
  instanceTypes := #[(.object "java/util/List")]
  staticTypes := #[.int]
  resolved := Array.replicate 58 none
  statics := none }

def pool3 : Array CpInfo := pool [(1, u "java/lang/Cloneable"), (0, .class_ 1), (0, u "java/lang/Object"), (0, .class_ 3)] 3

/-- java/lang/Cloneable -/
def k3 : Class := { plain "java/lang/Cloneable" (some 0) with
  accessFlags := 1537
  interfaces := #[]
  cf := some (fileOf pool3 2 #[] #[] 1537 4 #[] #[])
  fields := #[]
  methods := #[]
  instanceTypes := #[]
  staticTypes := #[]
  resolved := Array.replicate 8 none
  statics := none }

def pool4 : Array CpInfo := pool [(1, u "java/io/Serializable"), (0, .class_ 1), (0, u "java/lang/Object"), (0, .class_ 3)] 3

/-- java/io/Serializable -/
def k4 : Class := { plain "java/io/Serializable" (some 0) with
  accessFlags := 1537
  interfaces := #[]
  cf := some (fileOf pool4 2 #[] #[] 1537 4 #[] #[])
  fields := #[]
  methods := #[]
  instanceTypes := #[]
  staticTypes := #[]
  resolved := Array.replicate 8 none
  statics := none }

/-- the primitive byte -/
def k5 : Class := { plain "byte" none with kind := .primitive 'B', accessFlags := 0x411 }
/-- [B -/
def k6 : Class := { plain "[B" (some 0) with kind := .array 5 .byte, interfaces := #[3, 4], accessFlags := 1041 }

/-- the primitive int -/
def k7 : Class := { plain "int" none with kind := .primitive 'I', accessFlags := 0x411 }
/-- [I -/
def k8 : Class := { plain "[I" (some 0) with kind := .array 7 .int, interfaces := #[3, 4], accessFlags := 1041 }

def heap : Heap := #[]
def classes : Array Class := #[k0, k1, k2, k3, k4, k5, k6, k7, k8]
def interned : List (Array UInt16 × Addr) := []
def slotsUsed : Nat := 0
def theMethod : MethodId := ⟨1, 1⟩
def args0 : Array Value := #[.long 5, .int 7]
def aboutOver (below : List Frame) : State where
  vm := { classes := classes, interned := interned.toArray }
  heap := heap
  slotsUsed := slotsUsed
  threads := #[{ frames := .invoking theMethod args0 :: below }]
def below0 : List Frame := [.native { method := ⟨0, 0⟩, args := #[] }]
def about1 : State := aboutOver below0
def p0 : Program := .bare "" "" ""
def e0 : Env := launch0.env 0 0 0
theorem w_frames : about1.frames = Frame.invoking theMethod args0 :: below0 := rfl
set_option maxRecDepth 65536 in
theorem w_args : argsFit about1.vm theMethod args0 = true := by decide +kernel
set_option maxRecDepth 65536 in
theorem w_heap : heapFits about1 = true := by decide +kernel
set_option maxRecDepth 65536 in
theorem w_runnable : about1.curStatus? = some .runnable := by decide +kernel
set_option maxRecDepth 65536 in
theorem w_alone : about1.alone = true := by decide +kernel
set_option maxRecDepth 65536 in
theorem w_named : about1.methodNamed? x = some theMethod := by decide +kernel
set_option maxRecDepth 65536 in
theorem w_hears : about1.hears theMethod below0 = true := by decide +kernel
set_option maxRecDepth 65536 in
theorem w_ripe : about1.ripe theMethod args0 below0 = true := by decide +kernel
theorem w_running : about1.status = .running := rfl
set_option maxRecDepth 65536 in
theorem w_room : about1.hasRoom e0.platform room_1 = true :=
  launch0.hasRoom_least _ room_1 (by decide +kernel) (by decide +kernel) (by decide +kernel) (by decide +kernel) (by decide +kernel) (by decide +kernel)
theorem allAtoms_all (ts : List Jvm.Cond) (a : Array Jvm.Value) (st : Jvm.State) : (allAtoms ts).before a st = ts.all (fun c => c.before a st) := by
  induction ts with
  | nil => rfl
  | cons c t ih =>
    show (Jvm.Cond.and c (allAtoms t)).before a st = _
    rw [Jvm.Cond.before_and, ih, List.all_cons]
def words1 : List Jvm.Cond := Jvm.Cond.code x code maxLocals ret :: tables_1
/-- a 'code' word, met by the world's own term for the bytes: nothing is compared byte by byte -/
theorem code_word {y : MethodName} {bytes : ByteArray} {mx : Nat} {rt : Option FieldType} {a : Array Value} {s : State} {m : MethodId} {meth : Method} {c : Code} (h1 : s.methodNamed? y = some m) (h2 : s.vm.method? m = some meth) (h3 : meth.code = some c) (h4 : c.code = bytes)
    (h5 : (c.maxLocals == mx && c.exceptionTable.isEmpty && decide (c.maxStack ≤ mostOperands) && decide (meth.sig.returnType = rt) && !meth.locks && decide (parseMethodDescriptor y.desc = some meth.sig)) = true) : (Jvm.Cond.code y bytes mx rt).before a s = true := by
  simp only [Bool.and_eq_true, beq_iff_eq, Bool.not_eq_true', decide_eq_true_eq] at h5
  obtain ⟨⟨⟨⟨⟨g1, g2⟩, g3⟩, g4⟩, g5⟩, g6⟩ := h5
  simp [Cond.before, Cond.holds, Cond.value, h1, h2, h3, h4, g1, g2, g3, g4, g5, g6]
def isCode : Jvm.Cond → Bool
  | .code _ _ _ _ => true
  | _ => false
theorem all_split {L : List Jvm.Cond} {P : Jvm.Cond → Bool} (h1 : L.all (fun c => isCode c || P c) = true) (h2 : ∀ c ∈ L.filter isCode, P c = true) : L.all P = true := by
  refine List.all_eq_true.mpr fun c hc => ?_
  have h := List.all_eq_true.mp h1 c hc
  rcases Bool.eq_false_or_eq_true (isCode c) with hi | hi
  · exact h2 c (List.mem_filter.mpr ⟨hc, hi⟩)
  · simpa [hi] using h
set_option maxRecDepth 65536 in
theorem w_c0 : (Jvm.Cond.code x code maxLocals ret).before args0 about1 = true := code_word (m := ⟨1, 1⟩) (meth := k1m1) (c := k1c1) (by decide +kernel) rfl rfl rfl (by decide +kernel)
set_option maxRecDepth 65536 in
theorem w_c1 : (Jvm.Cond.code ({ cls := "com/example/forseti/forseti/core/LetterClasses", name := "of", desc := "(JZ)J" } : Jvm.MethodName) prog_59_method_5_code (3 : Nat) (Option.some Jvm.ClassFile.FieldType.long)).before args0 about1 = true := code_word (m := ⟨2, 1⟩) (meth := k2m1) (c := k2c1) (by decide +kernel) rfl rfl rfl (by decide +kernel)
def codes1 : List Jvm.Cond := [Jvm.Cond.code x code maxLocals ret, Jvm.Cond.code ({ cls := "com/example/forseti/forseti/core/LetterClasses", name := "of", desc := "(JZ)J" } : Jvm.MethodName) prog_59_method_5_code (3 : Nat) (Option.some Jvm.ClassFile.FieldType.long)]
set_option maxRecDepth 65536 in
theorem codes_eq : words1.filter isCode = codes1 := rfl
theorem w_codes : ∀ c ∈ words1.filter isCode, c.before args0 about1 = true := by
  rw [codes_eq]
  intro c hc
  simp only [codes1, List.mem_cons, List.not_mem_nil, or_false] at hc
  rcases hc with rfl | rfl
  · exact w_c0
  · exact w_c1
set_option maxRecDepth 65536 in
theorem w_t1 : words1.all (fun c => isCode c || c.before args0 about1) = true := by decide +kernel
theorem w_tables : (allAtoms (Jvm.Cond.code x code maxLocals ret :: tables_1)).before args0 about1 = true := by
  rw [allAtoms_all]
  show words1.all (fun c => c.before args0 about1) = true
  refine all_split ?_ w_codes
  rw [w_t1]
set_option maxRecDepth 65536 in
theorem w_case : (Jvm.Cond.and given_1 narrow_1).before args0 about1 = true := by decide +kernel
theorem w_applies : (headSpec (Jvm.Cond.code x code maxLocals ret :: tables_1) room_1).applies x e0.platform about1 = true :=
  (Spec.applies_iff w_frames).mpr ⟨w_running, w_runnable, w_alone, w_named, w_hears, w_ripe, w_room, w_tables⟩
theorem atStart : AtStart classFile x code maxLocals ret World_1 tables_1 room_1 Calls_1 rest_1 Pre_1 launch0 p0 e0 about1 theMethod args0 below0 :=
  ⟨lists_1, trivial, launch0.admits_env _ _ _, launch0.least_env, fairChoices_fair.cas, fairChoices_fair.clock, w_frames, w_args, w_heap, w_applies, trivial, trivial, w_case⟩
end start1
theorem witness_1 : WitnessClaimed_1 := ⟨start1.p0, start1.e0, start1.about1, start1.theMethod, start1.args0, start1.below0, start1.atStart⟩
end Jvm.Pilot.@@N@@
