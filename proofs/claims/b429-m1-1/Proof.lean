import JvmDerived
import JvmDerived.Pilot.@@N@@Statement
import JvmDerived.Pilot.@@N@@Code
set_option linter.unusedVariables false
set_option linter.unusedSimpArgs false
namespace Jvm.RoadKit
open Sem ClassFile Op Lib Jvm.Stand Jvm.Free Jvm.LawKit
section New
variable {p : Program} {l : Launch} {e : Env} {R : Room} {s : State} {m : MethodId} {args : Array Value} {below : List Frame} {meth : Method} {c : Code} {T : State} {locs : List Loc} {cells slots : Nat}
theorem retI (X : Stand p l e R s m args below meth c T locs cells slots) (hx : p.tables.exec = Jvm.exec) {pc : Nat} {Ls : Array Slot} {z : Int32} {rest : List Value} (hret : meth.sig.returnType = some .int) (hd : decode c.code pc = .ok (.ireturn, 1)) {fs : List Frame}
    (hl : ∀ (f : JFrame) (acts : List Action), f.method = m → f.locked = none → f.entered = [] → (doReturn e (T.setTop f) acts (some (.int z))).1 = T.setFrames fs) : Steps p.tables e below (T.setTop (mkF m pc Ls (.int z :: rest))) (T.setFrames fs) :=
  retOut X hx hret rfl (Or.inl ⟨rfl, Or.inl rfl, z, rfl⟩) hd hl
theorem retJ (X : Stand p l e R s m args below meth c T locs cells slots) (hx : p.tables.exec = Jvm.exec) {pc : Nat} {Ls : Array Slot} {z : Int64} {rest : List Value} (hret : meth.sig.returnType = some .long) (hd : decode c.code pc = .ok (.lreturn, 1)) {fs : List Frame}
    (hl : ∀ (f : JFrame) (acts : List Action), f.method = m → f.locked = none → f.entered = [] → (doReturn e (T.setTop f) acts (some (.long z))).1 = T.setFrames fs) : Steps p.tables e below (T.setTop (mkF m pc Ls (.long z :: rest))) (T.setFrames fs) :=
  retOut X hx hret rfl (Or.inr (Or.inl ⟨rfl, rfl, z, rfl⟩)) hd hl
theorem retA (X : Stand p l e R s m args below meth c T locs cells slots) (hx : p.tables.exec = Jvm.exec) {pc : Nat} {Ls : Array Slot} {w : Value} {rest : List Value} {t : FieldType} (hret : meth.sig.returnType = some t) (ht : t.isReference = true) (hn : narrow t w = w) (hw : w.isRef = true) (hd : decode c.code pc = .ok (.areturn, 1)) {fs : List Frame}
    (hl : ∀ (f : JFrame) (acts : List Action), f.method = m → f.locked = none → f.entered = [] → (doReturn e (T.setTop f) acts (some w)).1 = T.setFrames fs) : Steps p.tables e below (T.setTop (mkF m pc Ls (w :: rest))) (T.setFrames fs) :=
  retOut X hx hret hn (Or.inr (Or.inr (Or.inr (Or.inr ⟨rfl, ht, hw⟩)))) hd hl
end New
end Jvm.RoadKit
namespace Jvm.Pilot.@@N@@
open Jvm Jvm.ClassFile Sem Op Lib Jvm.Free Jvm.Stand Jvm.LawKit Jvm.RoadKit Bundle Jvm.Pilot.@@N@@.Jvm.D
theorem own_ext {h0 h : Heap} (K : Keep h0 h []) : Ext h0 h := ⟨K.1, fun a c q => K.2.1 a c q nin0⟩

def own_szT (j : Int32) : Int32 := if j < (128 : Int32) then 1 else if j < (194 : Int32) then -1 else if j < (224 : Int32) then 2 else if j < (240 : Int32) then 3 else if j < (245 : Int32) then 4 else -1
def own_loT (j : Int32) : Int32 := if j = (224 : Int32) then 160 else if j = (240 : Int32) then 144 else 128
def own_hiT (j : Int32) : Int32 := if j = (237 : Int32) then 159 else if j = (244 : Int32) then 143 else 191
def own_in (x lo hi : Int32) : Int32 := if x < lo then 0 else if hi < x then 0 else 1
def own_g4 (z : Int32) : Int32 := if (4 : Int32) < z then 0 else z
def own_g3 (n : Nat) (z b3 : Int32) : Int32 := if (3 : Int32) < z then (if n ≤ 3 then 0 else if b3 < (128 : Int32) then -1 else if (191 : Int32) < b3 then -1 else own_g4 z) else z
def own_g2 (n : Nat) (z b2 b3 : Int32) : Int32 := if (2 : Int32) < z then (if n ≤ 2 then 0 else if b2 < (128 : Int32) then -1 else if (191 : Int32) < b2 then -1 else own_g3 n z b3) else z
def own_cs (n : Nat) (b0 b1 b2 b3 : Int32) : Int32 := if (1 : Int32) < own_szT b0 then (if n ≤ 1 then 0 else if b1 < own_loT b0 then -1 else if own_hiT b0 < b1 then -1 else own_g2 n (own_szT b0) b2 b3) else own_szT b0
def own_ex (b0 b1 b2 b3 n : Int32) : Int32 :=
  if b0 < (128 : Int32) then 1 else if b0 < (194 : Int32) then -1 else if (244 : Int32) < b0 then -1 else
  if n < (2 : Int32) then 0 else if own_in b1 (if b0 = (224 : Int32) then 160 else if b0 = (240 : Int32) then 144 else 128) (if b0 = (237 : Int32) then 159 else if b0 = (244 : Int32) then 143 else 191) = (0 : Int32) then -1 else
  if (if b0 < (224 : Int32) then (2 : Int32) else if b0 < (240 : Int32) then 3 else 4) = (2 : Int32) then 2 else
  if n < (3 : Int32) then 0 else if own_in b2 (128 : Int32) (191 : Int32) = (0 : Int32) then -1 else
  if (if b0 < (224 : Int32) then (2 : Int32) else if b0 < (240 : Int32) then 3 else 4) = (3 : Int32) then 3 else
  if n < (4 : Int32) then 0 else if own_in b3 (128 : Int32) (191 : Int32) = (0 : Int32) then -1 else 4

theorem own_b255 (x : Int32) : ¬ (x &&& (255 : Int32)) < 0 ∧ (x &&& (255 : Int32)) < (256 : Int32) := by
  have h := c_mask x 255 8 (by decide) (by decide)
  have k0 : (0 : Int32).toInt = 0 := by decide
  have k1 : (256 : Int32).toInt = 256 := by decide
  rw [Int32.lt_iff_toInt_lt, Int32.lt_iff_toInt_lt]
  omega
theorem own_bb (x : Int32) : ((((x &&& (255 : Int32)).toInt8.toInt32).toInt8.toInt32) &&& (255 : Int32)) = (x &&& (255 : Int32)) := by
  have h := c_mask x 255 8 (by decide) (by decide)
  have h1 := c_i2b (x &&& (255 : Int32))
  have h2 := c_i2b ((x &&& (255 : Int32)).toInt8.toInt32)
  have h3 := c_mask (((x &&& (255 : Int32)).toInt8.toInt32).toInt8.toInt32) 255 8 (by decide) (by decide)
  apply Int32.toInt_inj.mp
  omega
theorem own_two (x : Int32) : (x &&& (1 : Int32)) = (0 : Int32) ∨ (x &&& (1 : Int32)) = (1 : Int32) := and_one x
theorem own_four (x : Int32) : ((1 : Int32) + (x &&& (3 : Int32))) = (1 : Int32) ∨ ((1 : Int32) + (x &&& (3 : Int32))) = (2 : Int32) ∨ ((1 : Int32) + (x &&& (3 : Int32))) = (3 : Int32) ∨ ((1 : Int32) + (x &&& (3 : Int32))) = (4 : Int32) := by
  have h := c_mask x 3 2 (by decide) (by decide)
  have h1 : (1 : Int32).toInt = 1 := by decide
  have h2 : (2 : Int32).toInt = 2 := by decide
  have h3 : (3 : Int32).toInt = 3 := by decide
  have h4 : (4 : Int32).toInt = 4 := by decide
  have h5 := c_iadd 1 (x &&& (3 : Int32))
  have h6 := rng32 ((1 : Int32) + (x &&& (3 : Int32)))
  simp only [← Int32.toInt_inj, h1, h2, h3, h4]
  omega
theorem own_in0 (x lo hi : Int32) : (own_in x lo hi = 0) = (x < lo ∨ hi < x) := by
  unfold own_in
  by_cases h1 : x < lo
  · simp [h1]
  · by_cases h2 : hi < x <;> simp [h1, h2]
theorem own_ifor {P Q : Prop} [Decidable P] [Decidable Q] (a b : Int32) : (if P ∨ Q then a else b) = if P then a else if Q then a else b := by
  by_cases h1 : P <;> by_cases h2 : Q <;> simp [h1, h2]
/-- b0 at 194 to 244: a size of two, three or four -/
theorem own_mid (n : Nat) (k b0 b1 b2 b3 z : Int32) (hk : (n = 1 ∧ k = 1) ∨ (n = 2 ∧ k = 2) ∨ (n = 3 ∧ k = 3) ∨ (n = 4 ∧ k = 4)) (hz : z = 2 ∨ z = 3 ∨ z = 4) (lo hi : Int32) :
    (if (1 : Int32) < z then (if n ≤ 1 then 0 else if b1 < lo then -1 else if hi < b1 then -1 else own_g2 n z b2 b3) else z) =
    (if k < (2 : Int32) then 0 else if own_in b1 lo hi = (0 : Int32) then -1 else if z = (2 : Int32) then 2 else
  if k < (3 : Int32) then 0 else if own_in b2 (128 : Int32) (191 : Int32) = (0 : Int32) then -1 else if z = (3 : Int32) then 3 else
  if k < (4 : Int32) then 0 else if own_in b3 (128 : Int32) (191 : Int32) = (0 : Int32) then -1 else 4) := by
  simp only [own_in0, own_ifor]
  rcases hz with rfl | rfl | rfl <;> rcases hk with ⟨rfl, rfl⟩ | ⟨rfl, rfl⟩ | ⟨rfl, rfl⟩ | ⟨rfl, rfl⟩ <;> simp [own_g2, own_g3, own_g4] <;> (repeat' split) <;> first | rfl | contradiction | simp_all
theorem own_fin (n : Nat) (k b0 b1 b2 b3 : Int32) (hk : (n = 1 ∧ k = 1) ∨ (n = 2 ∧ k = 2) ∨ (n = 3 ∧ k = 3) ∨ (n = 4 ∧ k = 4)) : own_cs n b0 b1 b2 b3 = own_ex b0 b1 b2 b3 k := by
  unfold own_cs own_ex
  by_cases h1 : b0 < 128
  · have : own_szT b0 = 1 := by simp [own_szT, h1]
    rw [this, if_pos h1]; rfl
  · by_cases h2 : b0 < 194
    · have : own_szT b0 = -1 := by simp [own_szT, h1, h2]
      rw [this, if_neg h1, if_pos h2]; rfl
    · by_cases h3 : (244 : Int32) < b0
      · have : own_szT b0 = -1 := by
          have k1 : (244 : Int32).toInt = 244 := by decide
          have k2 : (224 : Int32).toInt = 224 := by decide
          have k3 : (240 : Int32).toInt = 240 := by decide
          have k4 : (245 : Int32).toInt = 245 := by decide
          rw [Int32.lt_iff_toInt_lt, k1] at h3
          have g1 : ¬ b0 < 224 := by rw [Int32.lt_iff_toInt_lt, k2]; omega
          have g2 : ¬ b0 < 240 := by rw [Int32.lt_iff_toInt_lt, k3]; omega
          have g3 : ¬ b0 < 245 := by rw [Int32.lt_iff_toInt_lt, k4]; omega
          simp [own_szT, h1, h2, g1, g2, g3]
        rw [this, if_neg h1, if_neg h2, if_pos h3]; rfl
      · have e : own_szT b0 = (if b0 < (224 : Int32) then (2 : Int32) else if b0 < (240 : Int32) then 3 else 4) := by
          have k1 : (244 : Int32).toInt = 244 := by decide
          have k4 : (245 : Int32).toInt = 245 := by decide
          rw [Int32.lt_iff_toInt_lt, k1] at h3
          have g3 : b0 < 245 := by rw [Int32.lt_iff_toInt_lt, k4]; omega
          simp [own_szT, h1, h2, g3]
        rw [if_neg h1, if_neg h2, if_neg h3, e]
        exact own_mid n k b0 b1 b2 b3 _ hk (by split; exact Or.inl rfl; split; exact Or.inr (Or.inl rfl); exact Or.inr (Or.inr rfl)) _ _

theorem own_bR (x : Int32) : 0 ≤ (x &&& (255 : Int32)).toInt ∧ (x &&& (255 : Int32)).toInt < 256 := by
  have h := c_mask x 255 8 (by decide) (by decide); omega
theorem own_len {args : Array Value} {s : State} {t : Term} {a : Addr} {c : Cell} {ty : FieldType} {n : Int32} (ev : t.eval args s none [] s = some (.ref a)) (A : Arr s s.heap a c ty) (h : (Cond.eq (.length t) (.int n)).value args s none s [] = some true) (hn : ¬ n < 0) : c.slots.size = n.toNatClampNeg ∧ c.slots.size < 2 ^ 31 ∧ c.slots.size.toInt32 = n := by
  have ha : s.arrayAt? a = some c := A.fin (Vm.Alike.refl _)
  by_cases q : c.slots.size < 2 ^ 31
  · have e1 := len_f ev ha q
    have e2 : (Term.int n).eval args s none [] s = some (.int n) := rfl
    simp [Cond.value, e1, e2] at h
    refine ⟨?_, q, h⟩
    rw [← h]
    have := len_toInt q
    have h3 : c.slots.size.toInt32.toNatClampNeg = c.slots.size := by
      rw [Int32.toNatClampNeg, this]; simp
    exact h3.symm
  · have e1 : (Term.length t).eval args s none [] s = none := by simp [Term.eval, ev, ha]; omega
    simp [Cond.value, e1] at h
theorem own_or3 {args : Array Value} {s : State} {idx : List Nat} {G H X : Jvm.Cond} {P Q R : Prop} [Decidable P] [Decidable Q] [Decidable R] (h1 : G.value args s none s idx = some (decide P)) (h2 : H.value args s none s idx = some (decide Q)) (h3 : X.value args s none s idx = some (decide R)) (h : (Jvm.Cond.or G (.or H X)).value args s none s idx = some true) : P ∨ Q ∨ R := by
  by_cases p : P
  · exact Or.inl p
  · by_cases q : Q
    · exact Or.inr (Or.inl q)
    · simp [Cond.value, h1, h2, h3, p, q] at h
      exact Or.inr (Or.inr h)
/-- what a row of a pinned table says of the place j -/
theorem own_row {args : Array Value} {s : State} {C f d : String} {a : Addr} {cl : Cell} {ty : FieldType} {n j : Int32} (ev : (Term.static C f d).eval args s none [] s = some (.ref a)) (T : Tab s s.heap a cl ty n) (hj : ¬ (j < 0 ∨ cl.slots.size ≤ j.toNatClampNeg)) :
    (∀ c, (Cond.all (.static C f d) c).value args s none s [] = some true → c.value args s none s [j.toNatClampNeg] = some true) ∧ (Term.index 0).eval args s none [j.toNatClampNeg] s = some (.int j) ∧ (Term.elem (.static C f d) (.index 0)).eval args s none [j.toNatClampNeg] s = some (.int (atv cl j)) := by
  have ha : s.arrayAt? a = some cl := T.1.fin (Vm.Alike.refl _)
  have j0 : ¬ j < 0 := fun q => hj (Or.inl q)
  have ix : (Term.index 0).eval args s none [j.toNatClampNeg] s = some (.int j) := by
    show some (Value.int j.toNatClampNeg.toInt32) = _
    rw [(back32 j0).1]
  refine ⟨fun c h => Cond.all_elim ev ha h _ (Nat.lt_of_not_le fun q => hj (Or.inr q)), ix, ?_⟩
  rw [elem_f (o := none) (first := s) (idx := [j.toNatClampNeg]) (t := .static C f d) ev ix ha j0]
  exact T.2.2.2 j hj
theorem own_pt {args : Array Value} {s : State} {C f d : String} {a : Addr} {cl : Cell} {ty : FieldType} {n j v : Int32} (ev : (Term.static C f d).eval args s none [] s = some (.ref a)) (T : Tab s s.heap a cl ty n) (hj : ¬ (j < 0 ∨ cl.slots.size ≤ j.toNatClampNeg)) (h : (Cond.eq (.elem (.static C f d) (.int j)) (.int v)).value args s none s [] = some true) : atv cl j = v := by
  have ha : s.arrayAt? a = some cl := T.1.fin (Vm.Alike.refl _)
  have j0 : ¬ j < 0 := fun q => hj (Or.inl q)
  have e := elem_f (o := none) (first := s) (idx := []) (t := .static C f d) (a := .int j) ev (rfl : (Term.int j).eval args s none [] s = some (.int j)) ha j0
  rw [T.2.2.2 j hj] at e
  exact gotT (Cond.eq_ints e rfl) h
theorem own_szE {j w : Int32} (h6 : (128 : Int32) ≤ j ∨ w = 1) (h7 : j < (128 : Int32) ∨ (194 : Int32) ≤ j ∨ w = -1) (h8 : j < (194 : Int32) ∨ (224 : Int32) ≤ j ∨ w = 2) (h9 : j < (224 : Int32) ∨ (240 : Int32) ≤ j ∨ w = 3) (h10 : j < (240 : Int32) ∨ (245 : Int32) ≤ j ∨ w = 4) (h11 : j < (245 : Int32) ∨ w = -1) : w = own_szT j := by
  have k1 : (128 : Int32).toInt = 128 := by decide
  have k2 : (194 : Int32).toInt = 194 := by decide
  have k3 : (224 : Int32).toInt = 224 := by decide
  have k4 : (240 : Int32).toInt = 240 := by decide
  have k5 : (245 : Int32).toInt = 245 := by decide
  unfold own_szT
  simp only [Int32.lt_iff_toInt_lt, Int32.le_iff_toInt_le, k1, k2, k3, k4, k5] at *
  repeat' split
  all_goals first | (rcases h6 with h | h; omega; exact h) | (rcases h7 with h | h | h; omega; omega; exact h) | (rcases h8 with h | h | h; omega; omega; exact h) | (rcases h9 with h | h | h; omega; omega; exact h) | (rcases h10 with h | h | h; omega; omega; exact h) | (rcases h11 with h | h; omega; exact h)
theorem own_loE {j w : Int32} (h12 : (224 : Int32) ≤ j ∨ w = 128) (h13 : j = (224 : Int32) → w = 160) (h14 : j < (225 : Int32) ∨ (240 : Int32) ≤ j ∨ w = 128) (h15 : j = (240 : Int32) → w = 144) (h16 : j < (241 : Int32) ∨ w = 128) : w = own_loT j := by
  have k1 : (224 : Int32).toInt = 224 := by decide
  have k2 : (225 : Int32).toInt = 225 := by decide
  have k3 : (240 : Int32).toInt = 240 := by decide
  have k4 : (241 : Int32).toInt = 241 := by decide
  unfold own_loT
  split
  · rename_i h; exact h13 h
  · split
    · rename_i h; exact h15 h
    · rename_i g1 g2
      simp only [Int32.lt_iff_toInt_lt, Int32.le_iff_toInt_le, ← Int32.toInt_inj, k1, k2, k3, k4] at *
      omega
theorem own_hiE {j w : Int32} (h17 : (237 : Int32) ≤ j ∨ w = 191) (h18 : j = (237 : Int32) → w = 159) (h19 : j < (238 : Int32) ∨ (244 : Int32) ≤ j ∨ w = 191) (h20 : j = (244 : Int32) → w = 143) (h21 : j < (245 : Int32) ∨ w = 191) : w = own_hiT j := by
  have k1 : (237 : Int32).toInt = 237 := by decide
  have k2 : (238 : Int32).toInt = 238 := by decide
  have k3 : (244 : Int32).toInt = 244 := by decide
  have k4 : (245 : Int32).toInt = 245 := by decide
  unfold own_hiT
  split
  · rename_i h; exact h18 h
  · split
    · rename_i h; exact h20 h
    · rename_i g1 g2
      simp only [Int32.lt_iff_toInt_lt, Int32.le_iff_toInt_le, ← Int32.toInt_inj, k1, k2, k3, k4] at *
      omega
theorem own_pn0 : plainName "com/example/stratafile/stratafile/io/Utf8CharacterSizePinLaw" = true := by first | (simp [plainName, overriddenIn]; done) | decide +kernel
theorem own_d3_0 : decode method_3_code 0 = .ok (.iload_n 0, 1) := by decide +kernel
theorem own_d3_1 : decode method_3_code 1 = .ok (.iload_n 1, 1) := by decide +kernel
theorem own_d3_2 : decode method_3_code 2 = .ok (.if_icmp .lt 12, 3) := by decide +kernel
theorem own_d3_5 : decode method_3_code 5 = .ok (.iload_n 0, 1) := by decide +kernel
theorem own_d3_6 : decode method_3_code 6 = .ok (.iload_n 2, 1) := by decide +kernel
theorem own_d3_7 : decode method_3_code 7 = .ok (.if_icmp .gt 7, 3) := by decide +kernel
theorem own_d3_10 : decode method_3_code 10 = .ok (.iconst 1, 1) := by decide +kernel
theorem own_d3_11 : decode method_3_code 11 = .ok (.goto 4, 3) := by decide +kernel
theorem own_d3_14 : decode method_3_code 14 = .ok (.iconst 0, 1) := by decide +kernel
theorem own_d3_15 : decode method_3_code 15 = .ok (.ireturn, 1) := by decide +kernel
def own_Q3 (Z : State) (x1 : Int32) (x2 : Int32) (x3 : Int32) (h0 : Heap) (n0 : Nat) (v : Option Value) (h : Heap) (L : List Loc) : Prop := v = some (.int (own_in x1 x2 x3)) ∧ Fr n0 L ∧ h = h0
theorem own_ef3 (m : MethodId) (x1 : Int32) (x2 : Int32) (x3 : Int32) : entryFrame m #[(.int x1), (.int x2), (.int x3)] 3 = mkF m 0 #[.val (.int x1), .val (.int x2), .val (.int x3)] [] := by first | (simp [entryFrame, mkF, argsToLocals, Value.category]; done) | rfl
set_option maxRecDepth 65536 in
set_option maxHeartbeats 40000000 in
theorem own_rm3 (l : Launch) (Z : State) (a0 : Array Value) (hw : ∀ d ∈ tables_1, d.before a0 Z = true) (ws : List Jvm.Cond) (x1 : Int32) (x2 : Int32) (x3 : Int32) (h0 : Heap) (n0 : Nat) (Z0 : n0 ≤ h0.size)  :
    MetFree l (⟨"com/example/stratafile/stratafile/io/Utf8CharacterSizePinLaw", "in", "(III)Z"⟩ : MethodName) (head1 (Jvm.Cond.code (⟨"com/example/stratafile/stratafile/io/Utf8CharacterSizePinLaw", "in", "(III)Z"⟩ : MethodName) method_3_code 3 (some .boolean) :: ws) ({ frames := 0, cells := 0, slots := 0, locals := 0 } : Room)) (fun a U => a = #[(.int x1), (.int x2), (.int x3)] ∧ Z.Warmed39 U.vm ∧ U.heap = h0) (fun _ _ _ _ _ => True) (fun _ U o U' => ∃ v L, o = .returned v ∧ own_Q3 Z x1 x2 x3 h0 n0 v U'.heap L ∧ FrameEnd U o U' L ({ frames := 0, cells := 0, slots := 0, locals := 0 } : Room).cells ({ frames := 0, cells := 0, slots := 0, locals := 0 } : Room).slots) := by
  refine MetFree.of_bodySF (plainFor_of_name own_pn0) hisR ?_
  intro p e s m args below meth c s₁ Bd hml0 hP hK
  obtain ⟨rfl, hZ, hh⟩ := hP
  have hx := Bd.exec
  have hby := Bd.bytes
  have hml : c.maxLocals = 3 := hml0
  have hown : s.vm.findClass "com/example/stratafile/stratafile/io/Utf8CharacterSizePinLaw" = some m.cls := findClass_of_methodNamed Bd.named
  have hnm := (name_of_methodNamed Bd.named Bd.method).1
  have X0 : Stand p l e ({ frames := 0, cells := 0, slots := 0, locals := 0 } : Room) s m #[(.int x1), (.int x2), (.int x3)] below meth c s₁ [] 0 0 := Stand.of_body Bd
  have e0 : s₁.heap = h0 := by rw [← hh, Bd.state]; rfl
  have N0 := Fr.nil n0
  have pre0 : ∀ t, Steps p.tables e below (s₁.setTop (mkF m 0 #[.val (.int x1), .val (.int x2), .val (.int x3)] [])) t → Steps p.tables e below (s₁.setTop (entryFrame m #[(.int x1), (.int x2), (.int x3)] 3)) t := fun t k => castTop (own_ef3 m x1 x2 x3) k
  have pre1 : ∀ t, Steps p.tables e below (s₁.setTop (mkF m 2 #[.val (.int x1), .val (.int x2), .val (.int x3)] [(.int x2), (.int x1)])) t → Steps p.tables e below (s₁.setTop (entryFrame m #[(.int x1), (.int x2), (.int x3)] 3)) t := by
    intro t k
    refine pre0 _ ?_
    show Steps p.tables e below (s₁.setTop (mkF m 0 #[.val (.int x1), .val (.int x2), .val (.int x3)] [])) _
    refine XS.iloadN X0.here hx rfl (hb hby own_d3_0) rfl ?_
    show Steps p.tables e below (s₁.setTop (mkF m 1 #[.val (.int x1), .val (.int x2), .val (.int x3)] [(.int x1)])) _
    refine XS.iloadN X0.here hx rfl (hb hby own_d3_1) rfl ?_
    exact k
  by_cases hc2 : x1 < x2
  · obtain ⟨fs, hr, hrun, hended, hW, hsame⟩ := X0.leave (v := some (.int (0 : Int32))) (fun h => by rw [Bd.returns] at h; cases h)
    have ev2 : (own_in x1 x2 x3) = (0 : Int32) := by
      simp [own_in, hc2]
    refine ⟨_, _, pre1 _ ?_, hrun, hended, _, _, rfl, ?_, ⟨_, rfl⟩, hW, hsame.mono (by decide) (by decide)⟩
    · show Steps p.tables e below (s₁.setTop (mkF m 2 #[.val (.int x1), .val (.int x2), .val (.int x3)] [(.int x2), (.int x1)])) _
      refine XS.icmpYes X0.here hx rfl (pc0 := 2) (pc' := 14) rfl (hb hby own_d3_2) rfl (tlt hc2).1 (by decide) (by decide) ?_
      show Steps p.tables e below (s₁.setTop (mkF m 14 #[.val (.int x1), .val (.int x2), .val (.int x3)] [])) _
      refine XS.iconst X0.here hx rfl (hb hby own_d3_14) ?_
      show Steps p.tables e below (s₁.setTop (mkF m 15 #[.val (.int x1), .val (.int x2), .val (.int x3)] [(.int (0 : Int32))])) _
      exact retN X0 hx (t := .boolean) Bd.returns (by simp) (hb hby own_d3_15) hr
    · show own_Q3 Z x1 x2 x3 h0 n0 _ s₁.heap _
      rw [e0]
      exact ⟨(by rw [ev2]), N0, rfl⟩
  · have pre3 : ∀ t, Steps p.tables e below (s₁.setTop (mkF m 7 #[.val (.int x1), .val (.int x2), .val (.int x3)] [(.int x3), (.int x1)])) t → Steps p.tables e below (s₁.setTop (entryFrame m #[(.int x1), (.int x2), (.int x3)] 3)) t := by
      intro t k
      refine pre1 _ ?_
      show Steps p.tables e below (s₁.setTop (mkF m 2 #[.val (.int x1), .val (.int x2), .val (.int x3)] [(.int x2), (.int x1)])) _
      refine XS.icmpNo X0.here hx rfl (hb hby own_d3_2) rfl (flt hc2).1 ?_
      show Steps p.tables e below (s₁.setTop (mkF m 5 #[.val (.int x1), .val (.int x2), .val (.int x3)] [])) _
      refine XS.iloadN X0.here hx rfl (hb hby own_d3_5) rfl ?_
      show Steps p.tables e below (s₁.setTop (mkF m 6 #[.val (.int x1), .val (.int x2), .val (.int x3)] [(.int x1)])) _
      refine XS.iloadN X0.here hx rfl (hb hby own_d3_6) rfl ?_
      exact k
    by_cases hc7 : x3 < x1
    · obtain ⟨fs, hr, hrun, hended, hW, hsame⟩ := X0.leave (v := some (.int (0 : Int32))) (fun h => by rw [Bd.returns] at h; cases h)
      have ev4 : (own_in x1 x2 x3) = (0 : Int32) := by
        simp [own_in, hc2, hc7]
      refine ⟨_, _, pre3 _ ?_, hrun, hended, _, _, rfl, ?_, ⟨_, rfl⟩, hW, hsame.mono (by decide) (by decide)⟩
      · show Steps p.tables e below (s₁.setTop (mkF m 7 #[.val (.int x1), .val (.int x2), .val (.int x3)] [(.int x3), (.int x1)])) _
        refine XS.icmpYes X0.here hx rfl (pc0 := 7) (pc' := 14) rfl (hb hby own_d3_7) rfl (tlt hc7).2.2.1 (by decide) (by decide) ?_
        show Steps p.tables e below (s₁.setTop (mkF m 14 #[.val (.int x1), .val (.int x2), .val (.int x3)] [])) _
        refine XS.iconst X0.here hx rfl (hb hby own_d3_14) ?_
        show Steps p.tables e below (s₁.setTop (mkF m 15 #[.val (.int x1), .val (.int x2), .val (.int x3)] [(.int (0 : Int32))])) _
        exact retN X0 hx (t := .boolean) Bd.returns (by simp) (hb hby own_d3_15) hr
      · show own_Q3 Z x1 x2 x3 h0 n0 _ s₁.heap _
        rw [e0]
        exact ⟨(by rw [ev4]), N0, rfl⟩
    · obtain ⟨fs, hr, hrun, hended, hW, hsame⟩ := X0.leave (v := some (.int (1 : Int32))) (fun h => by rw [Bd.returns] at h; cases h)
      have ev5 : (own_in x1 x2 x3) = (1 : Int32) := by
        simp [own_in, hc2, hc7]
      refine ⟨_, _, pre3 _ ?_, hrun, hended, _, _, rfl, ?_, ⟨_, rfl⟩, hW, hsame.mono (by decide) (by decide)⟩
      · show Steps p.tables e below (s₁.setTop (mkF m 7 #[.val (.int x1), .val (.int x2), .val (.int x3)] [(.int x3), (.int x1)])) _
        refine XS.icmpNo X0.here hx rfl (hb hby own_d3_7) rfl (flt hc7).2.2.1 ?_
        show Steps p.tables e below (s₁.setTop (mkF m 10 #[.val (.int x1), .val (.int x2), .val (.int x3)] [])) _
        refine XS.iconst X0.here hx rfl (hb hby own_d3_10) ?_
        show Steps p.tables e below (s₁.setTop (mkF m 11 #[.val (.int x1), .val (.int x2), .val (.int x3)] [(.int (1 : Int32))])) _
        refine XS.goto X0.here hx rfl (pc0 := 11) (pc' := 15) rfl (hb hby own_d3_11) (by decide) (by decide) ?_
        show Steps p.tables e below (s₁.setTop (mkF m 15 #[.val (.int x1), .val (.int x2), .val (.int x3)] [(.int (1 : Int32))])) _
        exact retN X0 hx (t := .boolean) Bd.returns (by simp) (hb hby own_d3_15) hr
      · show own_Q3 Z x1 x2 x3 h0 n0 _ s₁.heap _
        rw [e0]
        exact ⟨(by rw [ev5]), N0, rfl⟩
theorem own_pn1 : plainName "com/example/stratafile/stratafile/io/Utf8" = true := by first | (simp [plainName, overriddenIn]; done) | decide +kernel
theorem own_d1_0 : decode prog_115_method_3_code 0 = .ok (.aload_n 0, 1) := by decide +kernel
theorem own_d1_1 : decode prog_115_method_3_code 1 = .ok (.iload_n 1, 1) := by decide +kernel
theorem own_d1_2 : decode prog_115_method_3_code 2 = .ok (.baload, 1) := by decide +kernel
theorem own_d1_3 : decode prog_115_method_3_code 3 = .ok (.sipush 255, 3) := by decide +kernel
theorem own_d1_6 : decode prog_115_method_3_code 6 = .ok (.iand, 1) := by decide +kernel
theorem own_d1_7 : decode prog_115_method_3_code 7 = .ok (.istore_n 3, 1) := by decide +kernel
theorem own_d1_8 : decode prog_115_method_3_code 8 = .ok (.getstatic 29, 3) := by decide +kernel
theorem own_d1_11 : decode prog_115_method_3_code 11 = .ok (.iload_n 3, 1) := by decide +kernel
theorem own_d1_12 : decode prog_115_method_3_code 12 = .ok (.baload, 1) := by decide +kernel
theorem own_d1_13 : decode prog_115_method_3_code 13 = .ok (.istore 4, 2) := by decide +kernel
theorem own_d1_15 : decode prog_115_method_3_code 15 = .ok (.getstatic 33, 3) := by decide +kernel
theorem own_d1_18 : decode prog_115_method_3_code 18 = .ok (.iload_n 3, 1) := by decide +kernel
theorem own_d1_19 : decode prog_115_method_3_code 19 = .ok (.iaload, 1) := by decide +kernel
theorem own_d1_20 : decode prog_115_method_3_code 20 = .ok (.istore 5, 2) := by decide +kernel
theorem own_d1_22 : decode prog_115_method_3_code 22 = .ok (.getstatic 37, 3) := by decide +kernel
theorem own_d1_25 : decode prog_115_method_3_code 25 = .ok (.iload_n 3, 1) := by decide +kernel
theorem own_d1_26 : decode prog_115_method_3_code 26 = .ok (.iaload, 1) := by decide +kernel
theorem own_d1_27 : decode prog_115_method_3_code 27 = .ok (.istore 6, 2) := by decide +kernel
theorem own_d1_29 : decode prog_115_method_3_code 29 = .ok (.iconst 1, 1) := by decide +kernel
theorem own_d1_30 : decode prog_115_method_3_code 30 = .ok (.istore 7, 2) := by decide +kernel
theorem own_d1_32 : decode prog_115_method_3_code 32 = .ok (.iload 7, 2) := by decide +kernel
theorem own_d1_34 : decode prog_115_method_3_code 34 = .ok (.iload 4, 2) := by decide +kernel
theorem own_d1_36 : decode prog_115_method_3_code 36 = .ok (.if_icmp .ge 57, 3) := by decide +kernel
theorem own_d1_39 : decode prog_115_method_3_code 39 = .ok (.iload_n 1, 1) := by decide +kernel
theorem own_d1_40 : decode prog_115_method_3_code 40 = .ok (.iload 7, 2) := by decide +kernel
theorem own_d1_42 : decode prog_115_method_3_code 42 = .ok (.iadd, 1) := by decide +kernel
theorem own_d1_43 : decode prog_115_method_3_code 43 = .ok (.iload_n 2, 1) := by decide +kernel
theorem own_d1_44 : decode prog_115_method_3_code 44 = .ok (.if_icmp .ne 5, 3) := by decide +kernel
theorem own_d1_47 : decode prog_115_method_3_code 47 = .ok (.iconst 0, 1) := by decide +kernel
theorem own_d1_48 : decode prog_115_method_3_code 48 = .ok (.ireturn, 1) := by decide +kernel
theorem own_d1_93 : decode prog_115_method_3_code 93 = .ok (.iload 4, 2) := by decide +kernel
theorem own_d1_95 : decode prog_115_method_3_code 95 = .ok (.ireturn, 1) := by decide +kernel
def own_Q1_0_1 (Z : State) (xarr : Addr) (xk : ClassId) (z0 : Int32) (z1 : Int32) (z2 : Int32) (z3 : Int32) (z4 : Int32) (wS : Addr) (cS : Cell) (wL : Addr) (cL : Cell) (wH : Addr) (cH : Cell) (h0 : Heap) (n0 : Nat) (v : Option Value) (h : Heap) (L : List Loc) : Prop := v = some (.int (own_cs 1 (z0 &&& (255 : Int32)) (z1 &&& (255 : Int32)) (z2 &&& (255 : Int32)) (z3 &&& (255 : Int32)))) ∧ Fr n0 L ∧ h = h0
theorem own_ef1_0_1 (m : MethodId) (xarr : Addr) : entryFrame m #[(.ref xarr), (.int (0 : Int32)), (.int (1 : Int32))] 9 = mkF m 0 #[.val (.ref xarr), .val (.int (0 : Int32)), .val (.int (1 : Int32)), .unset, .unset, .unset, .unset, .unset, .unset] [] := by first | (simp [entryFrame, mkF, argsToLocals, Value.category]; done) | rfl
set_option maxRecDepth 65536 in
set_option maxHeartbeats 40000000 in
theorem own_rm1_0_1 (l : Launch) (Z : State) (a0 : Array Value) (hw : ∀ d ∈ tables_1, d.before a0 Z = true) (ws : List Jvm.Cond) (xarr : Addr) (xk : ClassId) (z0 : Int32) (z1 : Int32) (z2 : Int32) (z3 : Int32) (z4 : Int32) (wS : Addr) (cS : Cell) (wL : Addr) (cL : Cell) (wH : Addr) (cH : Cell) (h0 : Heap) (n0 : Nat) (Z0 : n0 ≤ h0.size) (A_xarr : Arv Z h0 xarr xk .byte (5 : Int32) [(.int z0), (.int z1), (.int z2), (.int z3), (.int z4)] (.int (0 : Int32))) (S_SIZES : Sta Z h0 "com/example/stratafile/stratafile/io/Utf8" "SIZES" "[B" (.ref wS)) (R_wS : Arr Z h0 wS cS .byte) (S_SECOND_LOWEST : Sta Z h0 "com/example/stratafile/stratafile/io/Utf8" "SECOND_LOWEST" "[I" (.ref wL)) (R_wL : Arr Z h0 wL cL .int) (S_SECOND_HIGHEST : Sta Z h0 "com/example/stratafile/stratafile/io/Utf8" "SECOND_HIGHEST" "[I" (.ref wH)) (R_wH : Arr Z h0 wH cH .int) (szcS : cS.slots.size = (256 : Int32).toNatClampNeg) (tacS : ∀ j : Int32, ¬ (j < 0 ∨ cS.slots.size ≤ j.toNatClampNeg) → cS.slots[j.toNatClampNeg]? = some (.int (own_szT j))) (szcL : cL.slots.size = (256 : Int32).toNatClampNeg) (tacL : ∀ j : Int32, ¬ (j < 0 ∨ cL.slots.size ≤ j.toNatClampNeg) → cL.slots[j.toNatClampNeg]? = some (.int (own_loT j))) (szcH : cH.slots.size = (256 : Int32).toNatClampNeg) (tacH : ∀ j : Int32, ¬ (j < 0 ∨ cH.slots.size ≤ j.toNatClampNeg) → cH.slots[j.toNatClampNeg]? = some (.int (own_hiT j))) :
    MetFree l (⟨"com/example/stratafile/stratafile/io/Utf8", "characterSize", "([BII)I"⟩ : MethodName) (head1 (Jvm.Cond.code (⟨"com/example/stratafile/stratafile/io/Utf8", "characterSize", "([BII)I"⟩ : MethodName) prog_115_method_3_code 9 (some .int) :: ws) ({ frames := 0, cells := 0, slots := 0, locals := 0 } : Room)) (fun a U => a = #[(.ref xarr), (.int (0 : Int32)), (.int (1 : Int32))] ∧ Z.Warmed39 U.vm ∧ U.heap = h0) (fun _ _ _ _ _ => True) (fun _ U o U' => ∃ v L, o = .returned v ∧ own_Q1_0_1 Z xarr xk z0 z1 z2 z3 z4 wS cS wL cL wH cH h0 n0 v U'.heap L ∧ FrameEnd U o U' L ({ frames := 0, cells := 0, slots := 0, locals := 0 } : Room).cells ({ frames := 0, cells := 0, slots := 0, locals := 0 } : Room).slots) := by
  refine MetFree.of_bodySF (plainFor_of_name own_pn1) hisR ?_
  intro p e s m args below meth c s₁ Bd hml0 hP hK
  obtain ⟨rfl, hZ, hh⟩ := hP
  have hx := Bd.exec
  have hby := Bd.bytes
  have hml : c.maxLocals = 9 := hml0
  have hown : s.vm.findClass "com/example/stratafile/stratafile/io/Utf8" = some m.cls := findClass_of_methodNamed Bd.named
  have hnm := (name_of_methodNamed Bd.named Bd.method).1
  have X0 : Stand p l e ({ frames := 0, cells := 0, slots := 0, locals := 0 } : Room) s m #[(.ref xarr), (.int (0 : Int32)), (.int (1 : Int32))] below meth c s₁ [] 0 0 := Stand.of_body Bd
  have e0 : s₁.heap = h0 := by rw [← hh, Bd.state]; rfl
  have N0 := Fr.nil n0
  have pre0 : ∀ t, Steps p.tables e below (s₁.setTop (mkF m 0 #[.val (.ref xarr), .val (.int (0 : Int32)), .val (.int (1 : Int32)), .unset, .unset, .unset, .unset, .unset, .unset] [])) t → Steps p.tables e below (s₁.setTop (entryFrame m #[(.ref xarr), (.int (0 : Int32)), (.int (1 : Int32))] 9)) t := fun t k => castTop (own_ef1_0_1 m xarr) k
  obtain ⟨cl1, Ar1, q1, S1, M1, H1, G1⟩ := id A_xarr
  have in1 := inb_of S1 (j := (0 : Int32)) ⟨by decide, by decide⟩
  obtain ⟨v7, hv7⟩ : ∃ w : Int32, w = (z0 &&& (255 : Int32)) := ⟨_, rfl⟩
  have pre2 : ∀ t, Steps p.tables e below (s₁.setTop (mkF m 8 #[.val (.ref xarr), .val (.int (0 : Int32)), .val (.int (1 : Int32)), .val (.int v7), .unset, .unset, .unset, .unset, .unset] [])) t → Steps p.tables e below (s₁.setTop (entryFrame m #[(.ref xarr), (.int (0 : Int32)), (.int (1 : Int32))] 9)) t := by
    intro t k
    rw [hv7] at k
    refine pre0 _ ?_
    show Steps p.tables e below (s₁.setTop (mkF m 0 #[.val (.ref xarr), .val (.int (0 : Int32)), .val (.int (1 : Int32)), .unset, .unset, .unset, .unset, .unset, .unset] [])) _
    refine XS.aloadN X0.here hx rfl (hb hby own_d1_0) rfl rfl ?_
    show Steps p.tables e below (s₁.setTop (mkF m 1 #[.val (.ref xarr), .val (.int (0 : Int32)), .val (.int (1 : Int32)), .unset, .unset, .unset, .unset, .unset, .unset] [(.ref xarr)])) _
    refine XS.iloadN X0.here hx rfl (hb hby own_d1_1) rfl ?_
    show Steps p.tables e below (s₁.setTop (mkF m 2 #[.val (.ref xarr), .val (.int (0 : Int32)), .val (.int (1 : Int32)), .unset, .unset, .unset, .unset, .unset, .unset] [(.int (0 : Int32)), (.ref xarr)])) _
    refine X0.baloadBytes hx (j := (0 : Int32)) (v := (.int z0)) (by rw [e0]; exact Ar1.1) (State.isArrayOf_alike hZ.alike Ar1.2.1) Ar1.2.2 in1 (H1.at in1 rfl) (g := (mkF m 2 #[.val (.ref xarr), .val (.int (0 : Int32)), .val (.int (1 : Int32)), .unset, .unset, .unset, .unset, .unset, .unset] [(.int (0 : Int32)), (.ref xarr)])) rfl rfl (hb hby own_d1_2) _ ?_
    show Steps p.tables e below (s₁.setTop (mkF m 3 #[.val (.ref xarr), .val (.int (0 : Int32)), .val (.int (1 : Int32)), .unset, .unset, .unset, .unset, .unset, .unset] [(.int z0)])) _
    refine XS.sipush X0.here hx rfl (hb hby own_d1_3) ?_
    show Steps p.tables e below (s₁.setTop (mkF m 6 #[.val (.ref xarr), .val (.int (0 : Int32)), .val (.int (1 : Int32)), .unset, .unset, .unset, .unset, .unset, .unset] [(.int (255 : Int32)), (.int z0)])) _
    refine XS.iand X0.here hx rfl (hb hby own_d1_6) rfl ?_
    show Steps p.tables e below (s₁.setTop (mkF m 7 #[.val (.ref xarr), .val (.int (0 : Int32)), .val (.int (1 : Int32)), .unset, .unset, .unset, .unset, .unset, .unset] [(.int (z0 &&& (255 : Int32)))])) _
    refine XS.istoreN X0.here hx rfl (hb hby own_d1_7) rfl (l' := #[.val (.ref xarr), .val (.int (0 : Int32)), .val (.int (1 : Int32)), .val (.int (z0 &&& (255 : Int32))), .unset, .unset, .unset, .unset, .unset]) rfl ?_
    exact k
  have hv7r : ¬ v7 < 0 ∧ v7 < (256 : Int32) := by rw [hv7]; exact own_b255 _
  obtain ⟨T3, X3, e3, st3⟩ := getS2 X0 hx hZ hown (host := "") (Or.inl (hw _ (List.mem_of_getElem? (i := 5) rfl))) Via.refl e0 S_SIZES (g := (mkF m 8 #[.val (.ref xarr), .val (.int (0 : Int32)), .val (.int (1 : Int32)), .val (.int v7), .unset, .unset, .unset, .unset, .unset] [])) rfl (hb hby own_d1_8)
  have in4 : ¬ (v7 < 0 ∨ cS.slots.size ≤ (v7).toNatClampNeg) := inb_of szcS hv7r
  obtain ⟨v13, hv13⟩ : ∃ w : Int32, w = (own_szT v7) := ⟨_, rfl⟩
  have pre5 : ∀ t, Steps p.tables e below (T3.setTop (mkF m 15 #[.val (.ref xarr), .val (.int (0 : Int32)), .val (.int (1 : Int32)), .val (.int v7), .val (.int v13), .unset, .unset, .unset, .unset] [])) t → Steps p.tables e below (s₁.setTop (entryFrame m #[(.ref xarr), (.int (0 : Int32)), (.int (1 : Int32))] 9)) t := by
    intro t k
    rw [hv13] at k
    refine pre2 _ ?_
    show Steps p.tables e below (s₁.setTop (mkF m 8 #[.val (.ref xarr), .val (.int (0 : Int32)), .val (.int (1 : Int32)), .val (.int v7), .unset, .unset, .unset, .unset, .unset] [])) _
    refine st3 _ ?_
    show Steps p.tables e below (T3.setTop (mkF m 11 #[.val (.ref xarr), .val (.int (0 : Int32)), .val (.int (1 : Int32)), .val (.int v7), .unset, .unset, .unset, .unset, .unset] [(.ref wS)])) _
    refine XS.iloadN X3.here hx rfl (hb hby own_d1_11) rfl ?_
    show Steps p.tables e below (T3.setTop (mkF m 12 #[.val (.ref xarr), .val (.int (0 : Int32)), .val (.int (1 : Int32)), .val (.int v7), .unset, .unset, .unset, .unset, .unset] [(.int v7), (.ref wS)])) _
    refine X3.baloadBytes hx (j := v7) (v := (.int (own_szT v7))) (by rw [e3]; exact R_wS.1) (State.isArrayOf_alike hZ.alike R_wS.2.1) R_wS.2.2 in4 (tacS _ in4) (g := (mkF m 12 #[.val (.ref xarr), .val (.int (0 : Int32)), .val (.int (1 : Int32)), .val (.int v7), .unset, .unset, .unset, .unset, .unset] [(.int v7), (.ref wS)])) rfl rfl (hb hby own_d1_12) _ ?_
    show Steps p.tables e below (T3.setTop (mkF m 13 #[.val (.ref xarr), .val (.int (0 : Int32)), .val (.int (1 : Int32)), .val (.int v7), .unset, .unset, .unset, .unset, .unset] [(.int (own_szT v7))])) _
    refine XS.istore X3.here hx rfl (hb hby own_d1_13) rfl (l' := #[.val (.ref xarr), .val (.int (0 : Int32)), .val (.int (1 : Int32)), .val (.int v7), .val (.int (own_szT v7)), .unset, .unset, .unset, .unset]) rfl ?_
    exact k
  obtain ⟨T6, X6, e6, st6⟩ := getS2 X3 hx hZ hown (host := "") (Or.inl (hw _ (List.mem_of_getElem? (i := 7) rfl))) Via.refl e3 S_SECOND_LOWEST (g := (mkF m 15 #[.val (.ref xarr), .val (.int (0 : Int32)), .val (.int (1 : Int32)), .val (.int v7), .val (.int v13), .unset, .unset, .unset, .unset] [])) rfl (hb hby own_d1_15)
  have in7 : ¬ (v7 < 0 ∨ cL.slots.size ≤ (v7).toNatClampNeg) := inb_of szcL hv7r
  obtain ⟨v20, hv20⟩ : ∃ w : Int32, w = (own_loT v7) := ⟨_, rfl⟩
  have pre8 : ∀ t, Steps p.tables e below (T6.setTop (mkF m 22 #[.val (.ref xarr), .val (.int (0 : Int32)), .val (.int (1 : Int32)), .val (.int v7), .val (.int v13), .val (.int v20), .unset, .unset, .unset] [])) t → Steps p.tables e below (s₁.setTop (entryFrame m #[(.ref xarr), (.int (0 : Int32)), (.int (1 : Int32))] 9)) t := by
    intro t k
    rw [hv20] at k
    refine pre5 _ ?_
    show Steps p.tables e below (T3.setTop (mkF m 15 #[.val (.ref xarr), .val (.int (0 : Int32)), .val (.int (1 : Int32)), .val (.int v7), .val (.int v13), .unset, .unset, .unset, .unset] [])) _
    refine st6 _ ?_
    show Steps p.tables e below (T6.setTop (mkF m 18 #[.val (.ref xarr), .val (.int (0 : Int32)), .val (.int (1 : Int32)), .val (.int v7), .val (.int v13), .unset, .unset, .unset, .unset] [(.ref wL)])) _
    refine XS.iloadN X6.here hx rfl (hb hby own_d1_18) rfl ?_
    show Steps p.tables e below (T6.setTop (mkF m 19 #[.val (.ref xarr), .val (.int (0 : Int32)), .val (.int (1 : Int32)), .val (.int v7), .val (.int v13), .unset, .unset, .unset, .unset] [(.int v7), (.ref wL)])) _
    refine X6.iaload hx (j := v7) (v := (.int (own_loT v7))) (by rw [e6]; exact R_wL.1) (State.isArrayOf_alike hZ.alike R_wL.2.1) R_wL.2.2 in7 (tacL _ in7) (g := (mkF m 19 #[.val (.ref xarr), .val (.int (0 : Int32)), .val (.int (1 : Int32)), .val (.int v7), .val (.int v13), .unset, .unset, .unset, .unset] [(.int v7), (.ref wL)])) rfl rfl (hb hby own_d1_19) _ ?_
    show Steps p.tables e below (T6.setTop (mkF m 20 #[.val (.ref xarr), .val (.int (0 : Int32)), .val (.int (1 : Int32)), .val (.int v7), .val (.int v13), .unset, .unset, .unset, .unset] [(.int (own_loT v7))])) _
    refine XS.istore X6.here hx rfl (hb hby own_d1_20) rfl (l' := #[.val (.ref xarr), .val (.int (0 : Int32)), .val (.int (1 : Int32)), .val (.int v7), .val (.int v13), .val (.int (own_loT v7)), .unset, .unset, .unset]) rfl ?_
    exact k
  obtain ⟨T9, X9, e9, st9⟩ := getS2 X6 hx hZ hown (host := "") (Or.inl (hw _ (List.mem_of_getElem? (i := 9) rfl))) Via.refl e6 S_SECOND_HIGHEST (g := (mkF m 22 #[.val (.ref xarr), .val (.int (0 : Int32)), .val (.int (1 : Int32)), .val (.int v7), .val (.int v13), .val (.int v20), .unset, .unset, .unset] [])) rfl (hb hby own_d1_22)
  have in10 : ¬ (v7 < 0 ∨ cH.slots.size ≤ (v7).toNatClampNeg) := inb_of szcH hv7r
  obtain ⟨v27, hv27⟩ : ∃ w : Int32, w = (own_hiT v7) := ⟨_, rfl⟩
  have pre11 : ∀ t, Steps p.tables e below (T9.setTop (mkF m 29 #[.val (.ref xarr), .val (.int (0 : Int32)), .val (.int (1 : Int32)), .val (.int v7), .val (.int v13), .val (.int v20), .val (.int v27), .unset, .unset] [])) t → Steps p.tables e below (s₁.setTop (entryFrame m #[(.ref xarr), (.int (0 : Int32)), (.int (1 : Int32))] 9)) t := by
    intro t k
    rw [hv27] at k
    refine pre8 _ ?_
    show Steps p.tables e below (T6.setTop (mkF m 22 #[.val (.ref xarr), .val (.int (0 : Int32)), .val (.int (1 : Int32)), .val (.int v7), .val (.int v13), .val (.int v20), .unset, .unset, .unset] [])) _
    refine st9 _ ?_
    show Steps p.tables e below (T9.setTop (mkF m 25 #[.val (.ref xarr), .val (.int (0 : Int32)), .val (.int (1 : Int32)), .val (.int v7), .val (.int v13), .val (.int v20), .unset, .unset, .unset] [(.ref wH)])) _
    refine XS.iloadN X9.here hx rfl (hb hby own_d1_25) rfl ?_
    show Steps p.tables e below (T9.setTop (mkF m 26 #[.val (.ref xarr), .val (.int (0 : Int32)), .val (.int (1 : Int32)), .val (.int v7), .val (.int v13), .val (.int v20), .unset, .unset, .unset] [(.int v7), (.ref wH)])) _
    refine X9.iaload hx (j := v7) (v := (.int (own_hiT v7))) (by rw [e9]; exact R_wH.1) (State.isArrayOf_alike hZ.alike R_wH.2.1) R_wH.2.2 in10 (tacH _ in10) (g := (mkF m 26 #[.val (.ref xarr), .val (.int (0 : Int32)), .val (.int (1 : Int32)), .val (.int v7), .val (.int v13), .val (.int v20), .unset, .unset, .unset] [(.int v7), (.ref wH)])) rfl rfl (hb hby own_d1_26) _ ?_
    show Steps p.tables e below (T9.setTop (mkF m 27 #[.val (.ref xarr), .val (.int (0 : Int32)), .val (.int (1 : Int32)), .val (.int v7), .val (.int v13), .val (.int v20), .unset, .unset, .unset] [(.int (own_hiT v7))])) _
    refine XS.istore X9.here hx rfl (hb hby own_d1_27) rfl (l' := #[.val (.ref xarr), .val (.int (0 : Int32)), .val (.int (1 : Int32)), .val (.int v7), .val (.int v13), .val (.int v20), .val (.int (own_hiT v7)), .unset, .unset]) rfl ?_
    exact k
  have pre12 : ∀ t, Steps p.tables e below (T9.setTop (mkF m 36 #[.val (.ref xarr), .val (.int (0 : Int32)), .val (.int (1 : Int32)), .val (.int v7), .val (.int v13), .val (.int v20), .val (.int v27), .val (.int (1 : Int32)), .unset] [(.int v13), (.int (1 : Int32))])) t → Steps p.tables e below (s₁.setTop (entryFrame m #[(.ref xarr), (.int (0 : Int32)), (.int (1 : Int32))] 9)) t := by
    intro t k
    refine pre11 _ ?_
    show Steps p.tables e below (T9.setTop (mkF m 29 #[.val (.ref xarr), .val (.int (0 : Int32)), .val (.int (1 : Int32)), .val (.int v7), .val (.int v13), .val (.int v20), .val (.int v27), .unset, .unset] [])) _
    refine XS.iconst X9.here hx rfl (hb hby own_d1_29) ?_
    show Steps p.tables e below (T9.setTop (mkF m 30 #[.val (.ref xarr), .val (.int (0 : Int32)), .val (.int (1 : Int32)), .val (.int v7), .val (.int v13), .val (.int v20), .val (.int v27), .unset, .unset] [(.int (1 : Int32))])) _
    refine XS.istore X9.here hx rfl (hb hby own_d1_30) rfl (l' := #[.val (.ref xarr), .val (.int (0 : Int32)), .val (.int (1 : Int32)), .val (.int v7), .val (.int v13), .val (.int v20), .val (.int v27), .val (.int (1 : Int32)), .unset]) rfl ?_
    show Steps p.tables e below (T9.setTop (mkF m 32 #[.val (.ref xarr), .val (.int (0 : Int32)), .val (.int (1 : Int32)), .val (.int v7), .val (.int v13), .val (.int v20), .val (.int v27), .val (.int (1 : Int32)), .unset] [])) _
    refine XS.iload X9.here hx rfl (hb hby own_d1_32) rfl ?_
    show Steps p.tables e below (T9.setTop (mkF m 34 #[.val (.ref xarr), .val (.int (0 : Int32)), .val (.int (1 : Int32)), .val (.int v7), .val (.int v13), .val (.int v20), .val (.int v27), .val (.int (1 : Int32)), .unset] [(.int (1 : Int32))])) _
    refine XS.iload X9.here hx rfl (hb hby own_d1_34) rfl ?_
    exact k
  by_cases hc36 : (1 : Int32) < v13
  · obtain ⟨fs, hr, hrun, hended, hW, hsame⟩ := X9.leave (v := some (.int (0 : Int32))) (fun h => by rw [Bd.returns] at h; cases h)
    have ev13 : (own_cs 1 (z0 &&& (255 : Int32)) (z1 &&& (255 : Int32)) (z2 &&& (255 : Int32)) (z3 &&& (255 : Int32))) = (0 : Int32) := by
      have hq := hv13
      simp only [own_cs, own_g2, own_g3, own_g4, ← hv7, ← hv13, ← hv20, ← hv27]
      simp [hc36]
    refine ⟨_, _, pre12 _ ?_, hrun, hended, _, _, rfl, ?_, ⟨_, rfl⟩, hW, hsame.mono (by decide) (by decide)⟩
    · show Steps p.tables e below (T9.setTop (mkF m 36 #[.val (.ref xarr), .val (.int (0 : Int32)), .val (.int (1 : Int32)), .val (.int v7), .val (.int v13), .val (.int v20), .val (.int v27), .val (.int (1 : Int32)), .unset] [(.int v13), (.int (1 : Int32))])) _
      refine XS.icmpNo X9.here hx rfl (hb hby own_d1_36) rfl (tlt hc36).2.1 ?_
      show Steps p.tables e below (T9.setTop (mkF m 39 #[.val (.ref xarr), .val (.int (0 : Int32)), .val (.int (1 : Int32)), .val (.int v7), .val (.int v13), .val (.int v20), .val (.int v27), .val (.int (1 : Int32)), .unset] [])) _
      refine XS.iloadN X9.here hx rfl (hb hby own_d1_39) rfl ?_
      show Steps p.tables e below (T9.setTop (mkF m 40 #[.val (.ref xarr), .val (.int (0 : Int32)), .val (.int (1 : Int32)), .val (.int v7), .val (.int v13), .val (.int v20), .val (.int v27), .val (.int (1 : Int32)), .unset] [(.int (0 : Int32))])) _
      refine XS.iload X9.here hx rfl (hb hby own_d1_40) rfl ?_
      show Steps p.tables e below (T9.setTop (mkF m 42 #[.val (.ref xarr), .val (.int (0 : Int32)), .val (.int (1 : Int32)), .val (.int v7), .val (.int v13), .val (.int v20), .val (.int v27), .val (.int (1 : Int32)), .unset] [(.int (1 : Int32)), (.int (0 : Int32))])) _
      refine XS.iadd X9.here hx rfl (hb hby own_d1_42) rfl ?_
      show Steps p.tables e below (T9.setTop (mkF m 43 #[.val (.ref xarr), .val (.int (0 : Int32)), .val (.int (1 : Int32)), .val (.int v7), .val (.int v13), .val (.int v20), .val (.int v27), .val (.int (1 : Int32)), .unset] [(.int (1 : Int32))])) _
      refine XS.iloadN X9.here hx rfl (hb hby own_d1_43) rfl ?_
      show Steps p.tables e below (T9.setTop (mkF m 44 #[.val (.ref xarr), .val (.int (0 : Int32)), .val (.int (1 : Int32)), .val (.int v7), .val (.int v13), .val (.int v20), .val (.int v27), .val (.int (1 : Int32)), .unset] [(.int (1 : Int32)), (.int (1 : Int32))])) _
      refine XS.icmpNo X9.here hx rfl (hb hby own_d1_44) rfl (teq rfl).2 ?_
      show Steps p.tables e below (T9.setTop (mkF m 47 #[.val (.ref xarr), .val (.int (0 : Int32)), .val (.int (1 : Int32)), .val (.int v7), .val (.int v13), .val (.int v20), .val (.int v27), .val (.int (1 : Int32)), .unset] [])) _
      refine XS.iconst X9.here hx rfl (hb hby own_d1_47) ?_
      show Steps p.tables e below (T9.setTop (mkF m 48 #[.val (.ref xarr), .val (.int (0 : Int32)), .val (.int (1 : Int32)), .val (.int v7), .val (.int v13), .val (.int v20), .val (.int v27), .val (.int (1 : Int32)), .unset] [(.int (0 : Int32))])) _
      exact retI X9 hx Bd.returns (hb hby own_d1_48) hr
    · show own_Q1_0_1 Z xarr xk z0 z1 z2 z3 z4 wS cS wL cL wH cH h0 n0 _ T9.heap _
      rw [e9]
      exact ⟨(by rw [ev13]), N0, rfl⟩
  · obtain ⟨fs, hr, hrun, hended, hW, hsame⟩ := X9.leave (v := some (.int v13)) (fun h => by rw [Bd.returns] at h; cases h)
    have ev14 : (own_cs 1 (z0 &&& (255 : Int32)) (z1 &&& (255 : Int32)) (z2 &&& (255 : Int32)) (z3 &&& (255 : Int32))) = v13 := by
      have hq := hv13
      simp only [own_cs, own_g2, own_g3, own_g4, ← hv7, ← hv13, ← hv20, ← hv27]
      simp [hc36]
    refine ⟨_, _, pre12 _ ?_, hrun, hended, _, _, rfl, ?_, ⟨_, rfl⟩, hW, hsame.mono (by decide) (by decide)⟩
    · show Steps p.tables e below (T9.setTop (mkF m 36 #[.val (.ref xarr), .val (.int (0 : Int32)), .val (.int (1 : Int32)), .val (.int v7), .val (.int v13), .val (.int v20), .val (.int v27), .val (.int (1 : Int32)), .unset] [(.int v13), (.int (1 : Int32))])) _
      refine XS.icmpYes X9.here hx rfl (pc0 := 36) (pc' := 93) rfl (hb hby own_d1_36) rfl (flt hc36).2.1 (by decide) (by decide) ?_
      show Steps p.tables e below (T9.setTop (mkF m 93 #[.val (.ref xarr), .val (.int (0 : Int32)), .val (.int (1 : Int32)), .val (.int v7), .val (.int v13), .val (.int v20), .val (.int v27), .val (.int (1 : Int32)), .unset] [])) _
      refine XS.iload X9.here hx rfl (hb hby own_d1_93) rfl ?_
      show Steps p.tables e below (T9.setTop (mkF m 95 #[.val (.ref xarr), .val (.int (0 : Int32)), .val (.int (1 : Int32)), .val (.int v7), .val (.int v13), .val (.int v20), .val (.int v27), .val (.int (1 : Int32)), .unset] [(.int v13)])) _
      exact retI X9 hx Bd.returns (hb hby own_d1_95) hr
    · show own_Q1_0_1 Z xarr xk z0 z1 z2 z3 z4 wS cS wL cL wH cH h0 n0 _ T9.heap _
      rw [e9]
      exact ⟨(by rw [ev14]), N0, rfl⟩
theorem own_d1_49 : decode prog_115_method_3_code 49 = .ok (.aload_n 0, 1) := by decide +kernel
theorem own_d1_50 : decode prog_115_method_3_code 50 = .ok (.iload_n 1, 1) := by decide +kernel
theorem own_d1_51 : decode prog_115_method_3_code 51 = .ok (.iload 7, 2) := by decide +kernel
theorem own_d1_53 : decode prog_115_method_3_code 53 = .ok (.iadd, 1) := by decide +kernel
theorem own_d1_54 : decode prog_115_method_3_code 54 = .ok (.baload, 1) := by decide +kernel
theorem own_d1_55 : decode prog_115_method_3_code 55 = .ok (.sipush 255, 3) := by decide +kernel
theorem own_d1_58 : decode prog_115_method_3_code 58 = .ok (.iand, 1) := by decide +kernel
theorem own_d1_59 : decode prog_115_method_3_code 59 = .ok (.istore 8, 2) := by decide +kernel
theorem own_d1_61 : decode prog_115_method_3_code 61 = .ok (.iload 8, 2) := by decide +kernel
theorem own_d1_63 : decode prog_115_method_3_code 63 = .ok (.iload 5, 2) := by decide +kernel
theorem own_d1_65 : decode prog_115_method_3_code 65 = .ok (.if_icmp .lt 10, 3) := by decide +kernel
theorem own_d1_68 : decode prog_115_method_3_code 68 = .ok (.iload 8, 2) := by decide +kernel
theorem own_d1_70 : decode prog_115_method_3_code 70 = .ok (.iload 6, 2) := by decide +kernel
theorem own_d1_72 : decode prog_115_method_3_code 72 = .ok (.if_icmp .le 5, 3) := by decide +kernel
theorem own_d1_75 : decode prog_115_method_3_code 75 = .ok (.iconst (-1), 1) := by decide +kernel
theorem own_d1_76 : decode prog_115_method_3_code 76 = .ok (.ireturn, 1) := by decide +kernel
theorem own_d1_77 : decode prog_115_method_3_code 77 = .ok (.sipush 128, 3) := by decide +kernel
theorem own_d1_80 : decode prog_115_method_3_code 80 = .ok (.istore 5, 2) := by decide +kernel
theorem own_d1_82 : decode prog_115_method_3_code 82 = .ok (.sipush 191, 3) := by decide +kernel
theorem own_d1_85 : decode prog_115_method_3_code 85 = .ok (.istore 6, 2) := by decide +kernel
theorem own_d1_87 : decode prog_115_method_3_code 87 = .ok (.iinc 7 1, 3) := by decide +kernel
theorem own_d1_90 : decode prog_115_method_3_code 90 = .ok (.goto (-58), 3) := by decide +kernel
def own_Q1_0_2 (Z : State) (xarr : Addr) (xk : ClassId) (z0 : Int32) (z1 : Int32) (z2 : Int32) (z3 : Int32) (z4 : Int32) (wS : Addr) (cS : Cell) (wL : Addr) (cL : Cell) (wH : Addr) (cH : Cell) (h0 : Heap) (n0 : Nat) (v : Option Value) (h : Heap) (L : List Loc) : Prop := v = some (.int (own_cs 2 (z0 &&& (255 : Int32)) (z1 &&& (255 : Int32)) (z2 &&& (255 : Int32)) (z3 &&& (255 : Int32)))) ∧ Fr n0 L ∧ h = h0
theorem own_ef1_0_2 (m : MethodId) (xarr : Addr) : entryFrame m #[(.ref xarr), (.int (0 : Int32)), (.int (2 : Int32))] 9 = mkF m 0 #[.val (.ref xarr), .val (.int (0 : Int32)), .val (.int (2 : Int32)), .unset, .unset, .unset, .unset, .unset, .unset] [] := by first | (simp [entryFrame, mkF, argsToLocals, Value.category]; done) | rfl
set_option maxRecDepth 65536 in
set_option maxHeartbeats 40000000 in
theorem own_rm1_0_2 (l : Launch) (Z : State) (a0 : Array Value) (hw : ∀ d ∈ tables_1, d.before a0 Z = true) (ws : List Jvm.Cond) (xarr : Addr) (xk : ClassId) (z0 : Int32) (z1 : Int32) (z2 : Int32) (z3 : Int32) (z4 : Int32) (wS : Addr) (cS : Cell) (wL : Addr) (cL : Cell) (wH : Addr) (cH : Cell) (h0 : Heap) (n0 : Nat) (Z0 : n0 ≤ h0.size) (A_xarr : Arv Z h0 xarr xk .byte (5 : Int32) [(.int z0), (.int z1), (.int z2), (.int z3), (.int z4)] (.int (0 : Int32))) (S_SIZES : Sta Z h0 "com/example/stratafile/stratafile/io/Utf8" "SIZES" "[B" (.ref wS)) (R_wS : Arr Z h0 wS cS .byte) (S_SECOND_LOWEST : Sta Z h0 "com/example/stratafile/stratafile/io/Utf8" "SECOND_LOWEST" "[I" (.ref wL)) (R_wL : Arr Z h0 wL cL .int) (S_SECOND_HIGHEST : Sta Z h0 "com/example/stratafile/stratafile/io/Utf8" "SECOND_HIGHEST" "[I" (.ref wH)) (R_wH : Arr Z h0 wH cH .int) (szcS : cS.slots.size = (256 : Int32).toNatClampNeg) (tacS : ∀ j : Int32, ¬ (j < 0 ∨ cS.slots.size ≤ j.toNatClampNeg) → cS.slots[j.toNatClampNeg]? = some (.int (own_szT j))) (szcL : cL.slots.size = (256 : Int32).toNatClampNeg) (tacL : ∀ j : Int32, ¬ (j < 0 ∨ cL.slots.size ≤ j.toNatClampNeg) → cL.slots[j.toNatClampNeg]? = some (.int (own_loT j))) (szcH : cH.slots.size = (256 : Int32).toNatClampNeg) (tacH : ∀ j : Int32, ¬ (j < 0 ∨ cH.slots.size ≤ j.toNatClampNeg) → cH.slots[j.toNatClampNeg]? = some (.int (own_hiT j))) :
    MetFree l (⟨"com/example/stratafile/stratafile/io/Utf8", "characterSize", "([BII)I"⟩ : MethodName) (head1 (Jvm.Cond.code (⟨"com/example/stratafile/stratafile/io/Utf8", "characterSize", "([BII)I"⟩ : MethodName) prog_115_method_3_code 9 (some .int) :: ws) ({ frames := 0, cells := 0, slots := 0, locals := 0 } : Room)) (fun a U => a = #[(.ref xarr), (.int (0 : Int32)), (.int (2 : Int32))] ∧ Z.Warmed39 U.vm ∧ U.heap = h0) (fun _ _ _ _ _ => True) (fun _ U o U' => ∃ v L, o = .returned v ∧ own_Q1_0_2 Z xarr xk z0 z1 z2 z3 z4 wS cS wL cL wH cH h0 n0 v U'.heap L ∧ FrameEnd U o U' L ({ frames := 0, cells := 0, slots := 0, locals := 0 } : Room).cells ({ frames := 0, cells := 0, slots := 0, locals := 0 } : Room).slots) := by
  refine MetFree.of_bodySF (plainFor_of_name own_pn1) hisR ?_
  intro p e s m args below meth c s₁ Bd hml0 hP hK
  obtain ⟨rfl, hZ, hh⟩ := hP
  have hx := Bd.exec
  have hby := Bd.bytes
  have hml : c.maxLocals = 9 := hml0
  have hown : s.vm.findClass "com/example/stratafile/stratafile/io/Utf8" = some m.cls := findClass_of_methodNamed Bd.named
  have hnm := (name_of_methodNamed Bd.named Bd.method).1
  have X0 : Stand p l e ({ frames := 0, cells := 0, slots := 0, locals := 0 } : Room) s m #[(.ref xarr), (.int (0 : Int32)), (.int (2 : Int32))] below meth c s₁ [] 0 0 := Stand.of_body Bd
  have e0 : s₁.heap = h0 := by rw [← hh, Bd.state]; rfl
  have N0 := Fr.nil n0
  have pre0 : ∀ t, Steps p.tables e below (s₁.setTop (mkF m 0 #[.val (.ref xarr), .val (.int (0 : Int32)), .val (.int (2 : Int32)), .unset, .unset, .unset, .unset, .unset, .unset] [])) t → Steps p.tables e below (s₁.setTop (entryFrame m #[(.ref xarr), (.int (0 : Int32)), (.int (2 : Int32))] 9)) t := fun t k => castTop (own_ef1_0_2 m xarr) k
  obtain ⟨cl1, Ar1, q1, S1, M1, H1, G1⟩ := id A_xarr
  have in1 := inb_of S1 (j := (0 : Int32)) ⟨by decide, by decide⟩
  obtain ⟨v7, hv7⟩ : ∃ w : Int32, w = (z0 &&& (255 : Int32)) := ⟨_, rfl⟩
  have pre2 : ∀ t, Steps p.tables e below (s₁.setTop (mkF m 8 #[.val (.ref xarr), .val (.int (0 : Int32)), .val (.int (2 : Int32)), .val (.int v7), .unset, .unset, .unset, .unset, .unset] [])) t → Steps p.tables e below (s₁.setTop (entryFrame m #[(.ref xarr), (.int (0 : Int32)), (.int (2 : Int32))] 9)) t := by
    intro t k
    rw [hv7] at k
    refine pre0 _ ?_
    show Steps p.tables e below (s₁.setTop (mkF m 0 #[.val (.ref xarr), .val (.int (0 : Int32)), .val (.int (2 : Int32)), .unset, .unset, .unset, .unset, .unset, .unset] [])) _
    refine XS.aloadN X0.here hx rfl (hb hby own_d1_0) rfl rfl ?_
    show Steps p.tables e below (s₁.setTop (mkF m 1 #[.val (.ref xarr), .val (.int (0 : Int32)), .val (.int (2 : Int32)), .unset, .unset, .unset, .unset, .unset, .unset] [(.ref xarr)])) _
    refine XS.iloadN X0.here hx rfl (hb hby own_d1_1) rfl ?_
    show Steps p.tables e below (s₁.setTop (mkF m 2 #[.val (.ref xarr), .val (.int (0 : Int32)), .val (.int (2 : Int32)), .unset, .unset, .unset, .unset, .unset, .unset] [(.int (0 : Int32)), (.ref xarr)])) _
    refine X0.baloadBytes hx (j := (0 : Int32)) (v := (.int z0)) (by rw [e0]; exact Ar1.1) (State.isArrayOf_alike hZ.alike Ar1.2.1) Ar1.2.2 in1 (H1.at in1 rfl) (g := (mkF m 2 #[.val (.ref xarr), .val (.int (0 : Int32)), .val (.int (2 : Int32)), .unset, .unset, .unset, .unset, .unset, .unset] [(.int (0 : Int32)), (.ref xarr)])) rfl rfl (hb hby own_d1_2) _ ?_
    show Steps p.tables e below (s₁.setTop (mkF m 3 #[.val (.ref xarr), .val (.int (0 : Int32)), .val (.int (2 : Int32)), .unset, .unset, .unset, .unset, .unset, .unset] [(.int z0)])) _
    refine XS.sipush X0.here hx rfl (hb hby own_d1_3) ?_
    show Steps p.tables e below (s₁.setTop (mkF m 6 #[.val (.ref xarr), .val (.int (0 : Int32)), .val (.int (2 : Int32)), .unset, .unset, .unset, .unset, .unset, .unset] [(.int (255 : Int32)), (.int z0)])) _
    refine XS.iand X0.here hx rfl (hb hby own_d1_6) rfl ?_
    show Steps p.tables e below (s₁.setTop (mkF m 7 #[.val (.ref xarr), .val (.int (0 : Int32)), .val (.int (2 : Int32)), .unset, .unset, .unset, .unset, .unset, .unset] [(.int (z0 &&& (255 : Int32)))])) _
    refine XS.istoreN X0.here hx rfl (hb hby own_d1_7) rfl (l' := #[.val (.ref xarr), .val (.int (0 : Int32)), .val (.int (2 : Int32)), .val (.int (z0 &&& (255 : Int32))), .unset, .unset, .unset, .unset, .unset]) rfl ?_
    exact k
  have hv7r : ¬ v7 < 0 ∧ v7 < (256 : Int32) := by rw [hv7]; exact own_b255 _
  obtain ⟨T3, X3, e3, st3⟩ := getS2 X0 hx hZ hown (host := "") (Or.inl (hw _ (List.mem_of_getElem? (i := 5) rfl))) Via.refl e0 S_SIZES (g := (mkF m 8 #[.val (.ref xarr), .val (.int (0 : Int32)), .val (.int (2 : Int32)), .val (.int v7), .unset, .unset, .unset, .unset, .unset] [])) rfl (hb hby own_d1_8)
  have in4 : ¬ (v7 < 0 ∨ cS.slots.size ≤ (v7).toNatClampNeg) := inb_of szcS hv7r
  obtain ⟨v13, hv13⟩ : ∃ w : Int32, w = (own_szT v7) := ⟨_, rfl⟩
  have pre5 : ∀ t, Steps p.tables e below (T3.setTop (mkF m 15 #[.val (.ref xarr), .val (.int (0 : Int32)), .val (.int (2 : Int32)), .val (.int v7), .val (.int v13), .unset, .unset, .unset, .unset] [])) t → Steps p.tables e below (s₁.setTop (entryFrame m #[(.ref xarr), (.int (0 : Int32)), (.int (2 : Int32))] 9)) t := by
    intro t k
    rw [hv13] at k
    refine pre2 _ ?_
    show Steps p.tables e below (s₁.setTop (mkF m 8 #[.val (.ref xarr), .val (.int (0 : Int32)), .val (.int (2 : Int32)), .val (.int v7), .unset, .unset, .unset, .unset, .unset] [])) _
    refine st3 _ ?_
    show Steps p.tables e below (T3.setTop (mkF m 11 #[.val (.ref xarr), .val (.int (0 : Int32)), .val (.int (2 : Int32)), .val (.int v7), .unset, .unset, .unset, .unset, .unset] [(.ref wS)])) _
    refine XS.iloadN X3.here hx rfl (hb hby own_d1_11) rfl ?_
    show Steps p.tables e below (T3.setTop (mkF m 12 #[.val (.ref xarr), .val (.int (0 : Int32)), .val (.int (2 : Int32)), .val (.int v7), .unset, .unset, .unset, .unset, .unset] [(.int v7), (.ref wS)])) _
    refine X3.baloadBytes hx (j := v7) (v := (.int (own_szT v7))) (by rw [e3]; exact R_wS.1) (State.isArrayOf_alike hZ.alike R_wS.2.1) R_wS.2.2 in4 (tacS _ in4) (g := (mkF m 12 #[.val (.ref xarr), .val (.int (0 : Int32)), .val (.int (2 : Int32)), .val (.int v7), .unset, .unset, .unset, .unset, .unset] [(.int v7), (.ref wS)])) rfl rfl (hb hby own_d1_12) _ ?_
    show Steps p.tables e below (T3.setTop (mkF m 13 #[.val (.ref xarr), .val (.int (0 : Int32)), .val (.int (2 : Int32)), .val (.int v7), .unset, .unset, .unset, .unset, .unset] [(.int (own_szT v7))])) _
    refine XS.istore X3.here hx rfl (hb hby own_d1_13) rfl (l' := #[.val (.ref xarr), .val (.int (0 : Int32)), .val (.int (2 : Int32)), .val (.int v7), .val (.int (own_szT v7)), .unset, .unset, .unset, .unset]) rfl ?_
    exact k
  obtain ⟨T6, X6, e6, st6⟩ := getS2 X3 hx hZ hown (host := "") (Or.inl (hw _ (List.mem_of_getElem? (i := 7) rfl))) Via.refl e3 S_SECOND_LOWEST (g := (mkF m 15 #[.val (.ref xarr), .val (.int (0 : Int32)), .val (.int (2 : Int32)), .val (.int v7), .val (.int v13), .unset, .unset, .unset, .unset] [])) rfl (hb hby own_d1_15)
  have in7 : ¬ (v7 < 0 ∨ cL.slots.size ≤ (v7).toNatClampNeg) := inb_of szcL hv7r
  obtain ⟨v20, hv20⟩ : ∃ w : Int32, w = (own_loT v7) := ⟨_, rfl⟩
  have pre8 : ∀ t, Steps p.tables e below (T6.setTop (mkF m 22 #[.val (.ref xarr), .val (.int (0 : Int32)), .val (.int (2 : Int32)), .val (.int v7), .val (.int v13), .val (.int v20), .unset, .unset, .unset] [])) t → Steps p.tables e below (s₁.setTop (entryFrame m #[(.ref xarr), (.int (0 : Int32)), (.int (2 : Int32))] 9)) t := by
    intro t k
    rw [hv20] at k
    refine pre5 _ ?_
    show Steps p.tables e below (T3.setTop (mkF m 15 #[.val (.ref xarr), .val (.int (0 : Int32)), .val (.int (2 : Int32)), .val (.int v7), .val (.int v13), .unset, .unset, .unset, .unset] [])) _
    refine st6 _ ?_
    show Steps p.tables e below (T6.setTop (mkF m 18 #[.val (.ref xarr), .val (.int (0 : Int32)), .val (.int (2 : Int32)), .val (.int v7), .val (.int v13), .unset, .unset, .unset, .unset] [(.ref wL)])) _
    refine XS.iloadN X6.here hx rfl (hb hby own_d1_18) rfl ?_
    show Steps p.tables e below (T6.setTop (mkF m 19 #[.val (.ref xarr), .val (.int (0 : Int32)), .val (.int (2 : Int32)), .val (.int v7), .val (.int v13), .unset, .unset, .unset, .unset] [(.int v7), (.ref wL)])) _
    refine X6.iaload hx (j := v7) (v := (.int (own_loT v7))) (by rw [e6]; exact R_wL.1) (State.isArrayOf_alike hZ.alike R_wL.2.1) R_wL.2.2 in7 (tacL _ in7) (g := (mkF m 19 #[.val (.ref xarr), .val (.int (0 : Int32)), .val (.int (2 : Int32)), .val (.int v7), .val (.int v13), .unset, .unset, .unset, .unset] [(.int v7), (.ref wL)])) rfl rfl (hb hby own_d1_19) _ ?_
    show Steps p.tables e below (T6.setTop (mkF m 20 #[.val (.ref xarr), .val (.int (0 : Int32)), .val (.int (2 : Int32)), .val (.int v7), .val (.int v13), .unset, .unset, .unset, .unset] [(.int (own_loT v7))])) _
    refine XS.istore X6.here hx rfl (hb hby own_d1_20) rfl (l' := #[.val (.ref xarr), .val (.int (0 : Int32)), .val (.int (2 : Int32)), .val (.int v7), .val (.int v13), .val (.int (own_loT v7)), .unset, .unset, .unset]) rfl ?_
    exact k
  obtain ⟨T9, X9, e9, st9⟩ := getS2 X6 hx hZ hown (host := "") (Or.inl (hw _ (List.mem_of_getElem? (i := 9) rfl))) Via.refl e6 S_SECOND_HIGHEST (g := (mkF m 22 #[.val (.ref xarr), .val (.int (0 : Int32)), .val (.int (2 : Int32)), .val (.int v7), .val (.int v13), .val (.int v20), .unset, .unset, .unset] [])) rfl (hb hby own_d1_22)
  have in10 : ¬ (v7 < 0 ∨ cH.slots.size ≤ (v7).toNatClampNeg) := inb_of szcH hv7r
  obtain ⟨v27, hv27⟩ : ∃ w : Int32, w = (own_hiT v7) := ⟨_, rfl⟩
  have pre11 : ∀ t, Steps p.tables e below (T9.setTop (mkF m 29 #[.val (.ref xarr), .val (.int (0 : Int32)), .val (.int (2 : Int32)), .val (.int v7), .val (.int v13), .val (.int v20), .val (.int v27), .unset, .unset] [])) t → Steps p.tables e below (s₁.setTop (entryFrame m #[(.ref xarr), (.int (0 : Int32)), (.int (2 : Int32))] 9)) t := by
    intro t k
    rw [hv27] at k
    refine pre8 _ ?_
    show Steps p.tables e below (T6.setTop (mkF m 22 #[.val (.ref xarr), .val (.int (0 : Int32)), .val (.int (2 : Int32)), .val (.int v7), .val (.int v13), .val (.int v20), .unset, .unset, .unset] [])) _
    refine st9 _ ?_
    show Steps p.tables e below (T9.setTop (mkF m 25 #[.val (.ref xarr), .val (.int (0 : Int32)), .val (.int (2 : Int32)), .val (.int v7), .val (.int v13), .val (.int v20), .unset, .unset, .unset] [(.ref wH)])) _
    refine XS.iloadN X9.here hx rfl (hb hby own_d1_25) rfl ?_
    show Steps p.tables e below (T9.setTop (mkF m 26 #[.val (.ref xarr), .val (.int (0 : Int32)), .val (.int (2 : Int32)), .val (.int v7), .val (.int v13), .val (.int v20), .unset, .unset, .unset] [(.int v7), (.ref wH)])) _
    refine X9.iaload hx (j := v7) (v := (.int (own_hiT v7))) (by rw [e9]; exact R_wH.1) (State.isArrayOf_alike hZ.alike R_wH.2.1) R_wH.2.2 in10 (tacH _ in10) (g := (mkF m 26 #[.val (.ref xarr), .val (.int (0 : Int32)), .val (.int (2 : Int32)), .val (.int v7), .val (.int v13), .val (.int v20), .unset, .unset, .unset] [(.int v7), (.ref wH)])) rfl rfl (hb hby own_d1_26) _ ?_
    show Steps p.tables e below (T9.setTop (mkF m 27 #[.val (.ref xarr), .val (.int (0 : Int32)), .val (.int (2 : Int32)), .val (.int v7), .val (.int v13), .val (.int v20), .unset, .unset, .unset] [(.int (own_hiT v7))])) _
    refine XS.istore X9.here hx rfl (hb hby own_d1_27) rfl (l' := #[.val (.ref xarr), .val (.int (0 : Int32)), .val (.int (2 : Int32)), .val (.int v7), .val (.int v13), .val (.int v20), .val (.int (own_hiT v7)), .unset, .unset]) rfl ?_
    exact k
  have pre12 : ∀ t, Steps p.tables e below (T9.setTop (mkF m 36 #[.val (.ref xarr), .val (.int (0 : Int32)), .val (.int (2 : Int32)), .val (.int v7), .val (.int v13), .val (.int v20), .val (.int v27), .val (.int (1 : Int32)), .unset] [(.int v13), (.int (1 : Int32))])) t → Steps p.tables e below (s₁.setTop (entryFrame m #[(.ref xarr), (.int (0 : Int32)), (.int (2 : Int32))] 9)) t := by
    intro t k
    refine pre11 _ ?_
    show Steps p.tables e below (T9.setTop (mkF m 29 #[.val (.ref xarr), .val (.int (0 : Int32)), .val (.int (2 : Int32)), .val (.int v7), .val (.int v13), .val (.int v20), .val (.int v27), .unset, .unset] [])) _
    refine XS.iconst X9.here hx rfl (hb hby own_d1_29) ?_
    show Steps p.tables e below (T9.setTop (mkF m 30 #[.val (.ref xarr), .val (.int (0 : Int32)), .val (.int (2 : Int32)), .val (.int v7), .val (.int v13), .val (.int v20), .val (.int v27), .unset, .unset] [(.int (1 : Int32))])) _
    refine XS.istore X9.here hx rfl (hb hby own_d1_30) rfl (l' := #[.val (.ref xarr), .val (.int (0 : Int32)), .val (.int (2 : Int32)), .val (.int v7), .val (.int v13), .val (.int v20), .val (.int v27), .val (.int (1 : Int32)), .unset]) rfl ?_
    show Steps p.tables e below (T9.setTop (mkF m 32 #[.val (.ref xarr), .val (.int (0 : Int32)), .val (.int (2 : Int32)), .val (.int v7), .val (.int v13), .val (.int v20), .val (.int v27), .val (.int (1 : Int32)), .unset] [])) _
    refine XS.iload X9.here hx rfl (hb hby own_d1_32) rfl ?_
    show Steps p.tables e below (T9.setTop (mkF m 34 #[.val (.ref xarr), .val (.int (0 : Int32)), .val (.int (2 : Int32)), .val (.int v7), .val (.int v13), .val (.int v20), .val (.int v27), .val (.int (1 : Int32)), .unset] [(.int (1 : Int32))])) _
    refine XS.iload X9.here hx rfl (hb hby own_d1_34) rfl ?_
    exact k
  by_cases hc36 : (1 : Int32) < v13
  · have hd13 : ¬ ((1 : Int32) = (2 : Int32)) := (by decide)
    obtain ⟨cl14, Ar14, q14, S14, M14, H14, G14⟩ := id A_xarr
    have in14 := inb_of S14 (j := (1 : Int32)) ⟨by decide, by decide⟩
    obtain ⟨v59, hv59⟩ : ∃ w : Int32, w = (z1 &&& (255 : Int32)) := ⟨_, rfl⟩
    have pre15 : ∀ t, Steps p.tables e below (T9.setTop (mkF m 61 #[.val (.ref xarr), .val (.int (0 : Int32)), .val (.int (2 : Int32)), .val (.int v7), .val (.int v13), .val (.int v20), .val (.int v27), .val (.int (1 : Int32)), .val (.int v59)] [])) t → Steps p.tables e below (s₁.setTop (entryFrame m #[(.ref xarr), (.int (0 : Int32)), (.int (2 : Int32))] 9)) t := by
      intro t k
      rw [hv59] at k
      refine pre12 _ ?_
      show Steps p.tables e below (T9.setTop (mkF m 36 #[.val (.ref xarr), .val (.int (0 : Int32)), .val (.int (2 : Int32)), .val (.int v7), .val (.int v13), .val (.int v20), .val (.int v27), .val (.int (1 : Int32)), .unset] [(.int v13), (.int (1 : Int32))])) _
      refine XS.icmpNo X9.here hx rfl (hb hby own_d1_36) rfl (tlt hc36).2.1 ?_
      show Steps p.tables e below (T9.setTop (mkF m 39 #[.val (.ref xarr), .val (.int (0 : Int32)), .val (.int (2 : Int32)), .val (.int v7), .val (.int v13), .val (.int v20), .val (.int v27), .val (.int (1 : Int32)), .unset] [])) _
      refine XS.iloadN X9.here hx rfl (hb hby own_d1_39) rfl ?_
      show Steps p.tables e below (T9.setTop (mkF m 40 #[.val (.ref xarr), .val (.int (0 : Int32)), .val (.int (2 : Int32)), .val (.int v7), .val (.int v13), .val (.int v20), .val (.int v27), .val (.int (1 : Int32)), .unset] [(.int (0 : Int32))])) _
      refine XS.iload X9.here hx rfl (hb hby own_d1_40) rfl ?_
      show Steps p.tables e below (T9.setTop (mkF m 42 #[.val (.ref xarr), .val (.int (0 : Int32)), .val (.int (2 : Int32)), .val (.int v7), .val (.int v13), .val (.int v20), .val (.int v27), .val (.int (1 : Int32)), .unset] [(.int (1 : Int32)), (.int (0 : Int32))])) _
      refine XS.iadd X9.here hx rfl (hb hby own_d1_42) rfl ?_
      show Steps p.tables e below (T9.setTop (mkF m 43 #[.val (.ref xarr), .val (.int (0 : Int32)), .val (.int (2 : Int32)), .val (.int v7), .val (.int v13), .val (.int v20), .val (.int v27), .val (.int (1 : Int32)), .unset] [(.int (1 : Int32))])) _
      refine XS.iloadN X9.here hx rfl (hb hby own_d1_43) rfl ?_
      show Steps p.tables e below (T9.setTop (mkF m 44 #[.val (.ref xarr), .val (.int (0 : Int32)), .val (.int (2 : Int32)), .val (.int v7), .val (.int v13), .val (.int v20), .val (.int v27), .val (.int (1 : Int32)), .unset] [(.int (2 : Int32)), (.int (1 : Int32))])) _
      refine XS.icmpYes X9.here hx rfl (pc0 := 44) (pc' := 49) rfl (hb hby own_d1_44) rfl (feq hd13).2 (by decide) (by decide) ?_
      show Steps p.tables e below (T9.setTop (mkF m 49 #[.val (.ref xarr), .val (.int (0 : Int32)), .val (.int (2 : Int32)), .val (.int v7), .val (.int v13), .val (.int v20), .val (.int v27), .val (.int (1 : Int32)), .unset] [])) _
      refine XS.aloadN X9.here hx rfl (hb hby own_d1_49) rfl rfl ?_
      show Steps p.tables e below (T9.setTop (mkF m 50 #[.val (.ref xarr), .val (.int (0 : Int32)), .val (.int (2 : Int32)), .val (.int v7), .val (.int v13), .val (.int v20), .val (.int v27), .val (.int (1 : Int32)), .unset] [(.ref xarr)])) _
      refine XS.iloadN X9.here hx rfl (hb hby own_d1_50) rfl ?_
      show Steps p.tables e below (T9.setTop (mkF m 51 #[.val (.ref xarr), .val (.int (0 : Int32)), .val (.int (2 : Int32)), .val (.int v7), .val (.int v13), .val (.int v20), .val (.int v27), .val (.int (1 : Int32)), .unset] [(.int (0 : Int32)), (.ref xarr)])) _
      refine XS.iload X9.here hx rfl (hb hby own_d1_51) rfl ?_
      show Steps p.tables e below (T9.setTop (mkF m 53 #[.val (.ref xarr), .val (.int (0 : Int32)), .val (.int (2 : Int32)), .val (.int v7), .val (.int v13), .val (.int v20), .val (.int v27), .val (.int (1 : Int32)), .unset] [(.int (1 : Int32)), (.int (0 : Int32)), (.ref xarr)])) _
      refine XS.iadd X9.here hx rfl (hb hby own_d1_53) rfl ?_
      show Steps p.tables e below (T9.setTop (mkF m 54 #[.val (.ref xarr), .val (.int (0 : Int32)), .val (.int (2 : Int32)), .val (.int v7), .val (.int v13), .val (.int v20), .val (.int v27), .val (.int (1 : Int32)), .unset] [(.int (1 : Int32)), (.ref xarr)])) _
      refine X9.baloadBytes hx (j := (1 : Int32)) (v := (.int z1)) (by rw [e9]; exact Ar14.1) (State.isArrayOf_alike hZ.alike Ar14.2.1) Ar14.2.2 in14 (H14.at in14 rfl) (g := (mkF m 54 #[.val (.ref xarr), .val (.int (0 : Int32)), .val (.int (2 : Int32)), .val (.int v7), .val (.int v13), .val (.int v20), .val (.int v27), .val (.int (1 : Int32)), .unset] [(.int (1 : Int32)), (.ref xarr)])) rfl rfl (hb hby own_d1_54) _ ?_
      show Steps p.tables e below (T9.setTop (mkF m 55 #[.val (.ref xarr), .val (.int (0 : Int32)), .val (.int (2 : Int32)), .val (.int v7), .val (.int v13), .val (.int v20), .val (.int v27), .val (.int (1 : Int32)), .unset] [(.int z1)])) _
      refine XS.sipush X9.here hx rfl (hb hby own_d1_55) ?_
      show Steps p.tables e below (T9.setTop (mkF m 58 #[.val (.ref xarr), .val (.int (0 : Int32)), .val (.int (2 : Int32)), .val (.int v7), .val (.int v13), .val (.int v20), .val (.int v27), .val (.int (1 : Int32)), .unset] [(.int (255 : Int32)), (.int z1)])) _
      refine XS.iand X9.here hx rfl (hb hby own_d1_58) rfl ?_
      show Steps p.tables e below (T9.setTop (mkF m 59 #[.val (.ref xarr), .val (.int (0 : Int32)), .val (.int (2 : Int32)), .val (.int v7), .val (.int v13), .val (.int v20), .val (.int v27), .val (.int (1 : Int32)), .unset] [(.int (z1 &&& (255 : Int32)))])) _
      refine XS.istore X9.here hx rfl (hb hby own_d1_59) rfl (l' := #[.val (.ref xarr), .val (.int (0 : Int32)), .val (.int (2 : Int32)), .val (.int v7), .val (.int v13), .val (.int v20), .val (.int v27), .val (.int (1 : Int32)), .val (.int (z1 &&& (255 : Int32)))]) rfl ?_
      exact k
    have pre16 : ∀ t, Steps p.tables e below (T9.setTop (mkF m 65 #[.val (.ref xarr), .val (.int (0 : Int32)), .val (.int (2 : Int32)), .val (.int v7), .val (.int v13), .val (.int v20), .val (.int v27), .val (.int (1 : Int32)), .val (.int v59)] [(.int v20), (.int v59)])) t → Steps p.tables e below (s₁.setTop (entryFrame m #[(.ref xarr), (.int (0 : Int32)), (.int (2 : Int32))] 9)) t := by
      intro t k
      refine pre15 _ ?_
      show Steps p.tables e below (T9.setTop (mkF m 61 #[.val (.ref xarr), .val (.int (0 : Int32)), .val (.int (2 : Int32)), .val (.int v7), .val (.int v13), .val (.int v20), .val (.int v27), .val (.int (1 : Int32)), .val (.int v59)] [])) _
      refine XS.iload X9.here hx rfl (hb hby own_d1_61) rfl ?_
      show Steps p.tables e below (T9.setTop (mkF m 63 #[.val (.ref xarr), .val (.int (0 : Int32)), .val (.int (2 : Int32)), .val (.int v7), .val (.int v13), .val (.int v20), .val (.int v27), .val (.int (1 : Int32)), .val (.int v59)] [(.int v59)])) _
      refine XS.iload X9.here hx rfl (hb hby own_d1_63) rfl ?_
      exact k
    by_cases hc65 : v59 < v20
    · obtain ⟨fs, hr, hrun, hended, hW, hsame⟩ := X9.leave (v := some (.int (-1 : Int32))) (fun h => by rw [Bd.returns] at h; cases h)
      have ev17 : (own_cs 2 (z0 &&& (255 : Int32)) (z1 &&& (255 : Int32)) (z2 &&& (255 : Int32)) (z3 &&& (255 : Int32))) = (-1 : Int32) := by
        have hq := hv13
        simp only [own_cs, own_g2, own_g3, own_g4, ← hv7, ← hv13, ← hv20, ← hv27, ← hv59]
        simp [hc36, hc65]
      refine ⟨_, _, pre16 _ ?_, hrun, hended, _, _, rfl, ?_, ⟨_, rfl⟩, hW, hsame.mono (by decide) (by decide)⟩
      · show Steps p.tables e below (T9.setTop (mkF m 65 #[.val (.ref xarr), .val (.int (0 : Int32)), .val (.int (2 : Int32)), .val (.int v7), .val (.int v13), .val (.int v20), .val (.int v27), .val (.int (1 : Int32)), .val (.int v59)] [(.int v20), (.int v59)])) _
        refine XS.icmpYes X9.here hx rfl (pc0 := 65) (pc' := 75) rfl (hb hby own_d1_65) rfl (tlt hc65).1 (by decide) (by decide) ?_
        show Steps p.tables e below (T9.setTop (mkF m 75 #[.val (.ref xarr), .val (.int (0 : Int32)), .val (.int (2 : Int32)), .val (.int v7), .val (.int v13), .val (.int v20), .val (.int v27), .val (.int (1 : Int32)), .val (.int v59)] [])) _
        refine XS.iconst X9.here hx rfl (hb hby own_d1_75) ?_
        show Steps p.tables e below (T9.setTop (mkF m 76 #[.val (.ref xarr), .val (.int (0 : Int32)), .val (.int (2 : Int32)), .val (.int v7), .val (.int v13), .val (.int v20), .val (.int v27), .val (.int (1 : Int32)), .val (.int v59)] [(.int (-1 : Int32))])) _
        exact retI X9 hx Bd.returns (hb hby own_d1_76) hr
      · show own_Q1_0_2 Z xarr xk z0 z1 z2 z3 z4 wS cS wL cL wH cH h0 n0 _ T9.heap _
        rw [e9]
        exact ⟨(by rw [ev17]), N0, rfl⟩
    · have pre18 : ∀ t, Steps p.tables e below (T9.setTop (mkF m 72 #[.val (.ref xarr), .val (.int (0 : Int32)), .val (.int (2 : Int32)), .val (.int v7), .val (.int v13), .val (.int v20), .val (.int v27), .val (.int (1 : Int32)), .val (.int v59)] [(.int v27), (.int v59)])) t → Steps p.tables e below (s₁.setTop (entryFrame m #[(.ref xarr), (.int (0 : Int32)), (.int (2 : Int32))] 9)) t := by
        intro t k
        refine pre16 _ ?_
        show Steps p.tables e below (T9.setTop (mkF m 65 #[.val (.ref xarr), .val (.int (0 : Int32)), .val (.int (2 : Int32)), .val (.int v7), .val (.int v13), .val (.int v20), .val (.int v27), .val (.int (1 : Int32)), .val (.int v59)] [(.int v20), (.int v59)])) _
        refine XS.icmpNo X9.here hx rfl (hb hby own_d1_65) rfl (flt hc65).1 ?_
        show Steps p.tables e below (T9.setTop (mkF m 68 #[.val (.ref xarr), .val (.int (0 : Int32)), .val (.int (2 : Int32)), .val (.int v7), .val (.int v13), .val (.int v20), .val (.int v27), .val (.int (1 : Int32)), .val (.int v59)] [])) _
        refine XS.iload X9.here hx rfl (hb hby own_d1_68) rfl ?_
        show Steps p.tables e below (T9.setTop (mkF m 70 #[.val (.ref xarr), .val (.int (0 : Int32)), .val (.int (2 : Int32)), .val (.int v7), .val (.int v13), .val (.int v20), .val (.int v27), .val (.int (1 : Int32)), .val (.int v59)] [(.int v59)])) _
        refine XS.iload X9.here hx rfl (hb hby own_d1_70) rfl ?_
        exact k
      by_cases hc72 : v27 < v59
      · obtain ⟨fs, hr, hrun, hended, hW, hsame⟩ := X9.leave (v := some (.int (-1 : Int32))) (fun h => by rw [Bd.returns] at h; cases h)
        have ev19 : (own_cs 2 (z0 &&& (255 : Int32)) (z1 &&& (255 : Int32)) (z2 &&& (255 : Int32)) (z3 &&& (255 : Int32))) = (-1 : Int32) := by
          have hq := hv13
          simp only [own_cs, own_g2, own_g3, own_g4, ← hv7, ← hv13, ← hv20, ← hv27, ← hv59]
          simp [hc36, hc65, hc72]
        refine ⟨_, _, pre18 _ ?_, hrun, hended, _, _, rfl, ?_, ⟨_, rfl⟩, hW, hsame.mono (by decide) (by decide)⟩
        · show Steps p.tables e below (T9.setTop (mkF m 72 #[.val (.ref xarr), .val (.int (0 : Int32)), .val (.int (2 : Int32)), .val (.int v7), .val (.int v13), .val (.int v20), .val (.int v27), .val (.int (1 : Int32)), .val (.int v59)] [(.int v27), (.int v59)])) _
          refine XS.icmpNo X9.here hx rfl (hb hby own_d1_72) rfl (tlt hc72).2.2.2 ?_
          show Steps p.tables e below (T9.setTop (mkF m 75 #[.val (.ref xarr), .val (.int (0 : Int32)), .val (.int (2 : Int32)), .val (.int v7), .val (.int v13), .val (.int v20), .val (.int v27), .val (.int (1 : Int32)), .val (.int v59)] [])) _
          refine XS.iconst X9.here hx rfl (hb hby own_d1_75) ?_
          show Steps p.tables e below (T9.setTop (mkF m 76 #[.val (.ref xarr), .val (.int (0 : Int32)), .val (.int (2 : Int32)), .val (.int v7), .val (.int v13), .val (.int v20), .val (.int v27), .val (.int (1 : Int32)), .val (.int v59)] [(.int (-1 : Int32))])) _
          exact retI X9 hx Bd.returns (hb hby own_d1_76) hr
        · show own_Q1_0_2 Z xarr xk z0 z1 z2 z3 z4 wS cS wL cL wH cH h0 n0 _ T9.heap _
          rw [e9]
          exact ⟨(by rw [ev19]), N0, rfl⟩
      · have pre20 : ∀ t, Steps p.tables e below (T9.setTop (mkF m 36 #[.val (.ref xarr), .val (.int (0 : Int32)), .val (.int (2 : Int32)), .val (.int v7), .val (.int v13), .val (.int (128 : Int32)), .val (.int (191 : Int32)), .val (.int (2 : Int32)), .val (.int v59)] [(.int v13), (.int (2 : Int32))])) t → Steps p.tables e below (s₁.setTop (entryFrame m #[(.ref xarr), (.int (0 : Int32)), (.int (2 : Int32))] 9)) t := by
          intro t k
          refine pre18 _ ?_
          show Steps p.tables e below (T9.setTop (mkF m 72 #[.val (.ref xarr), .val (.int (0 : Int32)), .val (.int (2 : Int32)), .val (.int v7), .val (.int v13), .val (.int v20), .val (.int v27), .val (.int (1 : Int32)), .val (.int v59)] [(.int v27), (.int v59)])) _
          refine XS.icmpYes X9.here hx rfl (pc0 := 72) (pc' := 77) rfl (hb hby own_d1_72) rfl (flt hc72).2.2.2 (by decide) (by decide) ?_
          show Steps p.tables e below (T9.setTop (mkF m 77 #[.val (.ref xarr), .val (.int (0 : Int32)), .val (.int (2 : Int32)), .val (.int v7), .val (.int v13), .val (.int v20), .val (.int v27), .val (.int (1 : Int32)), .val (.int v59)] [])) _
          refine XS.sipush X9.here hx rfl (hb hby own_d1_77) ?_
          show Steps p.tables e below (T9.setTop (mkF m 80 #[.val (.ref xarr), .val (.int (0 : Int32)), .val (.int (2 : Int32)), .val (.int v7), .val (.int v13), .val (.int v20), .val (.int v27), .val (.int (1 : Int32)), .val (.int v59)] [(.int (128 : Int32))])) _
          refine XS.istore X9.here hx rfl (hb hby own_d1_80) rfl (l' := #[.val (.ref xarr), .val (.int (0 : Int32)), .val (.int (2 : Int32)), .val (.int v7), .val (.int v13), .val (.int (128 : Int32)), .val (.int v27), .val (.int (1 : Int32)), .val (.int v59)]) rfl ?_
          show Steps p.tables e below (T9.setTop (mkF m 82 #[.val (.ref xarr), .val (.int (0 : Int32)), .val (.int (2 : Int32)), .val (.int v7), .val (.int v13), .val (.int (128 : Int32)), .val (.int v27), .val (.int (1 : Int32)), .val (.int v59)] [])) _
          refine XS.sipush X9.here hx rfl (hb hby own_d1_82) ?_
          show Steps p.tables e below (T9.setTop (mkF m 85 #[.val (.ref xarr), .val (.int (0 : Int32)), .val (.int (2 : Int32)), .val (.int v7), .val (.int v13), .val (.int (128 : Int32)), .val (.int v27), .val (.int (1 : Int32)), .val (.int v59)] [(.int (191 : Int32))])) _
          refine XS.istore X9.here hx rfl (hb hby own_d1_85) rfl (l' := #[.val (.ref xarr), .val (.int (0 : Int32)), .val (.int (2 : Int32)), .val (.int v7), .val (.int v13), .val (.int (128 : Int32)), .val (.int (191 : Int32)), .val (.int (1 : Int32)), .val (.int v59)]) rfl ?_
          show Steps p.tables e below (T9.setTop (mkF m 87 #[.val (.ref xarr), .val (.int (0 : Int32)), .val (.int (2 : Int32)), .val (.int v7), .val (.int v13), .val (.int (128 : Int32)), .val (.int (191 : Int32)), .val (.int (1 : Int32)), .val (.int v59)] [])) _
          refine XS.iinc X9.here hx rfl (hb hby own_d1_87) rfl (l' := #[.val (.ref xarr), .val (.int (0 : Int32)), .val (.int (2 : Int32)), .val (.int v7), .val (.int v13), .val (.int (128 : Int32)), .val (.int (191 : Int32)), .val (.int (2 : Int32)), .val (.int v59)]) rfl ?_
          show Steps p.tables e below (T9.setTop (mkF m 90 #[.val (.ref xarr), .val (.int (0 : Int32)), .val (.int (2 : Int32)), .val (.int v7), .val (.int v13), .val (.int (128 : Int32)), .val (.int (191 : Int32)), .val (.int (2 : Int32)), .val (.int v59)] [])) _
          refine XS.goto X9.here hx rfl (pc0 := 90) (pc' := 32) rfl (hb hby own_d1_90) (by decide) (by decide) ?_
          show Steps p.tables e below (T9.setTop (mkF m 32 #[.val (.ref xarr), .val (.int (0 : Int32)), .val (.int (2 : Int32)), .val (.int v7), .val (.int v13), .val (.int (128 : Int32)), .val (.int (191 : Int32)), .val (.int (2 : Int32)), .val (.int v59)] [])) _
          refine XS.iload X9.here hx rfl (hb hby own_d1_32) rfl ?_
          show Steps p.tables e below (T9.setTop (mkF m 34 #[.val (.ref xarr), .val (.int (0 : Int32)), .val (.int (2 : Int32)), .val (.int v7), .val (.int v13), .val (.int (128 : Int32)), .val (.int (191 : Int32)), .val (.int (2 : Int32)), .val (.int v59)] [(.int (2 : Int32))])) _
          refine XS.iload X9.here hx rfl (hb hby own_d1_34) rfl ?_
          exact k
        by_cases hc36_2 : (2 : Int32) < v13
        · obtain ⟨fs, hr, hrun, hended, hW, hsame⟩ := X9.leave (v := some (.int (0 : Int32))) (fun h => by rw [Bd.returns] at h; cases h)
          have ev21 : (own_cs 2 (z0 &&& (255 : Int32)) (z1 &&& (255 : Int32)) (z2 &&& (255 : Int32)) (z3 &&& (255 : Int32))) = (0 : Int32) := by
            have hq := hv13
            simp only [own_cs, own_g2, own_g3, own_g4, ← hv7, ← hv13, ← hv20, ← hv27, ← hv59]
            simp [hc36, hc65, hc72, hc36_2]
          refine ⟨_, _, pre20 _ ?_, hrun, hended, _, _, rfl, ?_, ⟨_, rfl⟩, hW, hsame.mono (by decide) (by decide)⟩
          · show Steps p.tables e below (T9.setTop (mkF m 36 #[.val (.ref xarr), .val (.int (0 : Int32)), .val (.int (2 : Int32)), .val (.int v7), .val (.int v13), .val (.int (128 : Int32)), .val (.int (191 : Int32)), .val (.int (2 : Int32)), .val (.int v59)] [(.int v13), (.int (2 : Int32))])) _
            refine XS.icmpNo X9.here hx rfl (hb hby own_d1_36) rfl (tlt hc36_2).2.1 ?_
            show Steps p.tables e below (T9.setTop (mkF m 39 #[.val (.ref xarr), .val (.int (0 : Int32)), .val (.int (2 : Int32)), .val (.int v7), .val (.int v13), .val (.int (128 : Int32)), .val (.int (191 : Int32)), .val (.int (2 : Int32)), .val (.int v59)] [])) _
            refine XS.iloadN X9.here hx rfl (hb hby own_d1_39) rfl ?_
            show Steps p.tables e below (T9.setTop (mkF m 40 #[.val (.ref xarr), .val (.int (0 : Int32)), .val (.int (2 : Int32)), .val (.int v7), .val (.int v13), .val (.int (128 : Int32)), .val (.int (191 : Int32)), .val (.int (2 : Int32)), .val (.int v59)] [(.int (0 : Int32))])) _
            refine XS.iload X9.here hx rfl (hb hby own_d1_40) rfl ?_
            show Steps p.tables e below (T9.setTop (mkF m 42 #[.val (.ref xarr), .val (.int (0 : Int32)), .val (.int (2 : Int32)), .val (.int v7), .val (.int v13), .val (.int (128 : Int32)), .val (.int (191 : Int32)), .val (.int (2 : Int32)), .val (.int v59)] [(.int (2 : Int32)), (.int (0 : Int32))])) _
            refine XS.iadd X9.here hx rfl (hb hby own_d1_42) rfl ?_
            show Steps p.tables e below (T9.setTop (mkF m 43 #[.val (.ref xarr), .val (.int (0 : Int32)), .val (.int (2 : Int32)), .val (.int v7), .val (.int v13), .val (.int (128 : Int32)), .val (.int (191 : Int32)), .val (.int (2 : Int32)), .val (.int v59)] [(.int (2 : Int32))])) _
            refine XS.iloadN X9.here hx rfl (hb hby own_d1_43) rfl ?_
            show Steps p.tables e below (T9.setTop (mkF m 44 #[.val (.ref xarr), .val (.int (0 : Int32)), .val (.int (2 : Int32)), .val (.int v7), .val (.int v13), .val (.int (128 : Int32)), .val (.int (191 : Int32)), .val (.int (2 : Int32)), .val (.int v59)] [(.int (2 : Int32)), (.int (2 : Int32))])) _
            refine XS.icmpNo X9.here hx rfl (hb hby own_d1_44) rfl (teq rfl).2 ?_
            show Steps p.tables e below (T9.setTop (mkF m 47 #[.val (.ref xarr), .val (.int (0 : Int32)), .val (.int (2 : Int32)), .val (.int v7), .val (.int v13), .val (.int (128 : Int32)), .val (.int (191 : Int32)), .val (.int (2 : Int32)), .val (.int v59)] [])) _
            refine XS.iconst X9.here hx rfl (hb hby own_d1_47) ?_
            show Steps p.tables e below (T9.setTop (mkF m 48 #[.val (.ref xarr), .val (.int (0 : Int32)), .val (.int (2 : Int32)), .val (.int v7), .val (.int v13), .val (.int (128 : Int32)), .val (.int (191 : Int32)), .val (.int (2 : Int32)), .val (.int v59)] [(.int (0 : Int32))])) _
            exact retI X9 hx Bd.returns (hb hby own_d1_48) hr
          · show own_Q1_0_2 Z xarr xk z0 z1 z2 z3 z4 wS cS wL cL wH cH h0 n0 _ T9.heap _
            rw [e9]
            exact ⟨(by rw [ev21]), N0, rfl⟩
        · obtain ⟨fs, hr, hrun, hended, hW, hsame⟩ := X9.leave (v := some (.int v13)) (fun h => by rw [Bd.returns] at h; cases h)
          have ev22 : (own_cs 2 (z0 &&& (255 : Int32)) (z1 &&& (255 : Int32)) (z2 &&& (255 : Int32)) (z3 &&& (255 : Int32))) = v13 := by
            have hq := hv13
            simp only [own_cs, own_g2, own_g3, own_g4, ← hv7, ← hv13, ← hv20, ← hv27, ← hv59]
            simp [hc36, hc65, hc72, hc36_2]
          refine ⟨_, _, pre20 _ ?_, hrun, hended, _, _, rfl, ?_, ⟨_, rfl⟩, hW, hsame.mono (by decide) (by decide)⟩
          · show Steps p.tables e below (T9.setTop (mkF m 36 #[.val (.ref xarr), .val (.int (0 : Int32)), .val (.int (2 : Int32)), .val (.int v7), .val (.int v13), .val (.int (128 : Int32)), .val (.int (191 : Int32)), .val (.int (2 : Int32)), .val (.int v59)] [(.int v13), (.int (2 : Int32))])) _
            refine XS.icmpYes X9.here hx rfl (pc0 := 36) (pc' := 93) rfl (hb hby own_d1_36) rfl (flt hc36_2).2.1 (by decide) (by decide) ?_
            show Steps p.tables e below (T9.setTop (mkF m 93 #[.val (.ref xarr), .val (.int (0 : Int32)), .val (.int (2 : Int32)), .val (.int v7), .val (.int v13), .val (.int (128 : Int32)), .val (.int (191 : Int32)), .val (.int (2 : Int32)), .val (.int v59)] [])) _
            refine XS.iload X9.here hx rfl (hb hby own_d1_93) rfl ?_
            show Steps p.tables e below (T9.setTop (mkF m 95 #[.val (.ref xarr), .val (.int (0 : Int32)), .val (.int (2 : Int32)), .val (.int v7), .val (.int v13), .val (.int (128 : Int32)), .val (.int (191 : Int32)), .val (.int (2 : Int32)), .val (.int v59)] [(.int v13)])) _
            exact retI X9 hx Bd.returns (hb hby own_d1_95) hr
          · show own_Q1_0_2 Z xarr xk z0 z1 z2 z3 z4 wS cS wL cL wH cH h0 n0 _ T9.heap _
            rw [e9]
            exact ⟨(by rw [ev22]), N0, rfl⟩
  · obtain ⟨fs, hr, hrun, hended, hW, hsame⟩ := X9.leave (v := some (.int v13)) (fun h => by rw [Bd.returns] at h; cases h)
    have ev23 : (own_cs 2 (z0 &&& (255 : Int32)) (z1 &&& (255 : Int32)) (z2 &&& (255 : Int32)) (z3 &&& (255 : Int32))) = v13 := by
      have hq := hv13
      simp only [own_cs, own_g2, own_g3, own_g4, ← hv7, ← hv13, ← hv20, ← hv27]
      simp [hc36]
    refine ⟨_, _, pre12 _ ?_, hrun, hended, _, _, rfl, ?_, ⟨_, rfl⟩, hW, hsame.mono (by decide) (by decide)⟩
    · show Steps p.tables e below (T9.setTop (mkF m 36 #[.val (.ref xarr), .val (.int (0 : Int32)), .val (.int (2 : Int32)), .val (.int v7), .val (.int v13), .val (.int v20), .val (.int v27), .val (.int (1 : Int32)), .unset] [(.int v13), (.int (1 : Int32))])) _
      refine XS.icmpYes X9.here hx rfl (pc0 := 36) (pc' := 93) rfl (hb hby own_d1_36) rfl (flt hc36).2.1 (by decide) (by decide) ?_
      show Steps p.tables e below (T9.setTop (mkF m 93 #[.val (.ref xarr), .val (.int (0 : Int32)), .val (.int (2 : Int32)), .val (.int v7), .val (.int v13), .val (.int v20), .val (.int v27), .val (.int (1 : Int32)), .unset] [])) _
      refine XS.iload X9.here hx rfl (hb hby own_d1_93) rfl ?_
      show Steps p.tables e below (T9.setTop (mkF m 95 #[.val (.ref xarr), .val (.int (0 : Int32)), .val (.int (2 : Int32)), .val (.int v7), .val (.int v13), .val (.int v20), .val (.int v27), .val (.int (1 : Int32)), .unset] [(.int v13)])) _
      exact retI X9 hx Bd.returns (hb hby own_d1_95) hr
    · show own_Q1_0_2 Z xarr xk z0 z1 z2 z3 z4 wS cS wL cL wH cH h0 n0 _ T9.heap _
      rw [e9]
      exact ⟨(by rw [ev23]), N0, rfl⟩
def own_Q1_0_3 (Z : State) (xarr : Addr) (xk : ClassId) (z0 : Int32) (z1 : Int32) (z2 : Int32) (z3 : Int32) (z4 : Int32) (wS : Addr) (cS : Cell) (wL : Addr) (cL : Cell) (wH : Addr) (cH : Cell) (h0 : Heap) (n0 : Nat) (v : Option Value) (h : Heap) (L : List Loc) : Prop := v = some (.int (own_cs 3 (z0 &&& (255 : Int32)) (z1 &&& (255 : Int32)) (z2 &&& (255 : Int32)) (z3 &&& (255 : Int32)))) ∧ Fr n0 L ∧ h = h0
theorem own_ef1_0_3 (m : MethodId) (xarr : Addr) : entryFrame m #[(.ref xarr), (.int (0 : Int32)), (.int (3 : Int32))] 9 = mkF m 0 #[.val (.ref xarr), .val (.int (0 : Int32)), .val (.int (3 : Int32)), .unset, .unset, .unset, .unset, .unset, .unset] [] := by first | (simp [entryFrame, mkF, argsToLocals, Value.category]; done) | rfl
set_option maxRecDepth 65536 in
set_option maxHeartbeats 40000000 in
theorem own_rm1_0_3 (l : Launch) (Z : State) (a0 : Array Value) (hw : ∀ d ∈ tables_1, d.before a0 Z = true) (ws : List Jvm.Cond) (xarr : Addr) (xk : ClassId) (z0 : Int32) (z1 : Int32) (z2 : Int32) (z3 : Int32) (z4 : Int32) (wS : Addr) (cS : Cell) (wL : Addr) (cL : Cell) (wH : Addr) (cH : Cell) (h0 : Heap) (n0 : Nat) (Z0 : n0 ≤ h0.size) (A_xarr : Arv Z h0 xarr xk .byte (5 : Int32) [(.int z0), (.int z1), (.int z2), (.int z3), (.int z4)] (.int (0 : Int32))) (S_SIZES : Sta Z h0 "com/example/stratafile/stratafile/io/Utf8" "SIZES" "[B" (.ref wS)) (R_wS : Arr Z h0 wS cS .byte) (S_SECOND_LOWEST : Sta Z h0 "com/example/stratafile/stratafile/io/Utf8" "SECOND_LOWEST" "[I" (.ref wL)) (R_wL : Arr Z h0 wL cL .int) (S_SECOND_HIGHEST : Sta Z h0 "com/example/stratafile/stratafile/io/Utf8" "SECOND_HIGHEST" "[I" (.ref wH)) (R_wH : Arr Z h0 wH cH .int) (szcS : cS.slots.size = (256 : Int32).toNatClampNeg) (tacS : ∀ j : Int32, ¬ (j < 0 ∨ cS.slots.size ≤ j.toNatClampNeg) → cS.slots[j.toNatClampNeg]? = some (.int (own_szT j))) (szcL : cL.slots.size = (256 : Int32).toNatClampNeg) (tacL : ∀ j : Int32, ¬ (j < 0 ∨ cL.slots.size ≤ j.toNatClampNeg) → cL.slots[j.toNatClampNeg]? = some (.int (own_loT j))) (szcH : cH.slots.size = (256 : Int32).toNatClampNeg) (tacH : ∀ j : Int32, ¬ (j < 0 ∨ cH.slots.size ≤ j.toNatClampNeg) → cH.slots[j.toNatClampNeg]? = some (.int (own_hiT j))) :
    MetFree l (⟨"com/example/stratafile/stratafile/io/Utf8", "characterSize", "([BII)I"⟩ : MethodName) (head1 (Jvm.Cond.code (⟨"com/example/stratafile/stratafile/io/Utf8", "characterSize", "([BII)I"⟩ : MethodName) prog_115_method_3_code 9 (some .int) :: ws) ({ frames := 0, cells := 0, slots := 0, locals := 0 } : Room)) (fun a U => a = #[(.ref xarr), (.int (0 : Int32)), (.int (3 : Int32))] ∧ Z.Warmed39 U.vm ∧ U.heap = h0) (fun _ _ _ _ _ => True) (fun _ U o U' => ∃ v L, o = .returned v ∧ own_Q1_0_3 Z xarr xk z0 z1 z2 z3 z4 wS cS wL cL wH cH h0 n0 v U'.heap L ∧ FrameEnd U o U' L ({ frames := 0, cells := 0, slots := 0, locals := 0 } : Room).cells ({ frames := 0, cells := 0, slots := 0, locals := 0 } : Room).slots) := by
  refine MetFree.of_bodySF (plainFor_of_name own_pn1) hisR ?_
  intro p e s m args below meth c s₁ Bd hml0 hP hK
  obtain ⟨rfl, hZ, hh⟩ := hP
  have hx := Bd.exec
  have hby := Bd.bytes
  have hml : c.maxLocals = 9 := hml0
  have hown : s.vm.findClass "com/example/stratafile/stratafile/io/Utf8" = some m.cls := findClass_of_methodNamed Bd.named
  have hnm := (name_of_methodNamed Bd.named Bd.method).1
  have X0 : Stand p l e ({ frames := 0, cells := 0, slots := 0, locals := 0 } : Room) s m #[(.ref xarr), (.int (0 : Int32)), (.int (3 : Int32))] below meth c s₁ [] 0 0 := Stand.of_body Bd
  have e0 : s₁.heap = h0 := by rw [← hh, Bd.state]; rfl
  have N0 := Fr.nil n0
  have pre0 : ∀ t, Steps p.tables e below (s₁.setTop (mkF m 0 #[.val (.ref xarr), .val (.int (0 : Int32)), .val (.int (3 : Int32)), .unset, .unset, .unset, .unset, .unset, .unset] [])) t → Steps p.tables e below (s₁.setTop (entryFrame m #[(.ref xarr), (.int (0 : Int32)), (.int (3 : Int32))] 9)) t := fun t k => castTop (own_ef1_0_3 m xarr) k
  obtain ⟨cl1, Ar1, q1, S1, M1, H1, G1⟩ := id A_xarr
  have in1 := inb_of S1 (j := (0 : Int32)) ⟨by decide, by decide⟩
  obtain ⟨v7, hv7⟩ : ∃ w : Int32, w = (z0 &&& (255 : Int32)) := ⟨_, rfl⟩
  have pre2 : ∀ t, Steps p.tables e below (s₁.setTop (mkF m 8 #[.val (.ref xarr), .val (.int (0 : Int32)), .val (.int (3 : Int32)), .val (.int v7), .unset, .unset, .unset, .unset, .unset] [])) t → Steps p.tables e below (s₁.setTop (entryFrame m #[(.ref xarr), (.int (0 : Int32)), (.int (3 : Int32))] 9)) t := by
    intro t k
    rw [hv7] at k
    refine pre0 _ ?_
    show Steps p.tables e below (s₁.setTop (mkF m 0 #[.val (.ref xarr), .val (.int (0 : Int32)), .val (.int (3 : Int32)), .unset, .unset, .unset, .unset, .unset, .unset] [])) _
    refine XS.aloadN X0.here hx rfl (hb hby own_d1_0) rfl rfl ?_
    show Steps p.tables e below (s₁.setTop (mkF m 1 #[.val (.ref xarr), .val (.int (0 : Int32)), .val (.int (3 : Int32)), .unset, .unset, .unset, .unset, .unset, .unset] [(.ref xarr)])) _
    refine XS.iloadN X0.here hx rfl (hb hby own_d1_1) rfl ?_
    show Steps p.tables e below (s₁.setTop (mkF m 2 #[.val (.ref xarr), .val (.int (0 : Int32)), .val (.int (3 : Int32)), .unset, .unset, .unset, .unset, .unset, .unset] [(.int (0 : Int32)), (.ref xarr)])) _
    refine X0.baloadBytes hx (j := (0 : Int32)) (v := (.int z0)) (by rw [e0]; exact Ar1.1) (State.isArrayOf_alike hZ.alike Ar1.2.1) Ar1.2.2 in1 (H1.at in1 rfl) (g := (mkF m 2 #[.val (.ref xarr), .val (.int (0 : Int32)), .val (.int (3 : Int32)), .unset, .unset, .unset, .unset, .unset, .unset] [(.int (0 : Int32)), (.ref xarr)])) rfl rfl (hb hby own_d1_2) _ ?_
    show Steps p.tables e below (s₁.setTop (mkF m 3 #[.val (.ref xarr), .val (.int (0 : Int32)), .val (.int (3 : Int32)), .unset, .unset, .unset, .unset, .unset, .unset] [(.int z0)])) _
    refine XS.sipush X0.here hx rfl (hb hby own_d1_3) ?_
    show Steps p.tables e below (s₁.setTop (mkF m 6 #[.val (.ref xarr), .val (.int (0 : Int32)), .val (.int (3 : Int32)), .unset, .unset, .unset, .unset, .unset, .unset] [(.int (255 : Int32)), (.int z0)])) _
    refine XS.iand X0.here hx rfl (hb hby own_d1_6) rfl ?_
    show Steps p.tables e below (s₁.setTop (mkF m 7 #[.val (.ref xarr), .val (.int (0 : Int32)), .val (.int (3 : Int32)), .unset, .unset, .unset, .unset, .unset, .unset] [(.int (z0 &&& (255 : Int32)))])) _
    refine XS.istoreN X0.here hx rfl (hb hby own_d1_7) rfl (l' := #[.val (.ref xarr), .val (.int (0 : Int32)), .val (.int (3 : Int32)), .val (.int (z0 &&& (255 : Int32))), .unset, .unset, .unset, .unset, .unset]) rfl ?_
    exact k
  have hv7r : ¬ v7 < 0 ∧ v7 < (256 : Int32) := by rw [hv7]; exact own_b255 _
  obtain ⟨T3, X3, e3, st3⟩ := getS2 X0 hx hZ hown (host := "") (Or.inl (hw _ (List.mem_of_getElem? (i := 5) rfl))) Via.refl e0 S_SIZES (g := (mkF m 8 #[.val (.ref xarr), .val (.int (0 : Int32)), .val (.int (3 : Int32)), .val (.int v7), .unset, .unset, .unset, .unset, .unset] [])) rfl (hb hby own_d1_8)
  have in4 : ¬ (v7 < 0 ∨ cS.slots.size ≤ (v7).toNatClampNeg) := inb_of szcS hv7r
  obtain ⟨v13, hv13⟩ : ∃ w : Int32, w = (own_szT v7) := ⟨_, rfl⟩
  have pre5 : ∀ t, Steps p.tables e below (T3.setTop (mkF m 15 #[.val (.ref xarr), .val (.int (0 : Int32)), .val (.int (3 : Int32)), .val (.int v7), .val (.int v13), .unset, .unset, .unset, .unset] [])) t → Steps p.tables e below (s₁.setTop (entryFrame m #[(.ref xarr), (.int (0 : Int32)), (.int (3 : Int32))] 9)) t := by
    intro t k
    rw [hv13] at k
    refine pre2 _ ?_
    show Steps p.tables e below (s₁.setTop (mkF m 8 #[.val (.ref xarr), .val (.int (0 : Int32)), .val (.int (3 : Int32)), .val (.int v7), .unset, .unset, .unset, .unset, .unset] [])) _
    refine st3 _ ?_
    show Steps p.tables e below (T3.setTop (mkF m 11 #[.val (.ref xarr), .val (.int (0 : Int32)), .val (.int (3 : Int32)), .val (.int v7), .unset, .unset, .unset, .unset, .unset] [(.ref wS)])) _
    refine XS.iloadN X3.here hx rfl (hb hby own_d1_11) rfl ?_
    show Steps p.tables e below (T3.setTop (mkF m 12 #[.val (.ref xarr), .val (.int (0 : Int32)), .val (.int (3 : Int32)), .val (.int v7), .unset, .unset, .unset, .unset, .unset] [(.int v7), (.ref wS)])) _
    refine X3.baloadBytes hx (j := v7) (v := (.int (own_szT v7))) (by rw [e3]; exact R_wS.1) (State.isArrayOf_alike hZ.alike R_wS.2.1) R_wS.2.2 in4 (tacS _ in4) (g := (mkF m 12 #[.val (.ref xarr), .val (.int (0 : Int32)), .val (.int (3 : Int32)), .val (.int v7), .unset, .unset, .unset, .unset, .unset] [(.int v7), (.ref wS)])) rfl rfl (hb hby own_d1_12) _ ?_
    show Steps p.tables e below (T3.setTop (mkF m 13 #[.val (.ref xarr), .val (.int (0 : Int32)), .val (.int (3 : Int32)), .val (.int v7), .unset, .unset, .unset, .unset, .unset] [(.int (own_szT v7))])) _
    refine XS.istore X3.here hx rfl (hb hby own_d1_13) rfl (l' := #[.val (.ref xarr), .val (.int (0 : Int32)), .val (.int (3 : Int32)), .val (.int v7), .val (.int (own_szT v7)), .unset, .unset, .unset, .unset]) rfl ?_
    exact k
  obtain ⟨T6, X6, e6, st6⟩ := getS2 X3 hx hZ hown (host := "") (Or.inl (hw _ (List.mem_of_getElem? (i := 7) rfl))) Via.refl e3 S_SECOND_LOWEST (g := (mkF m 15 #[.val (.ref xarr), .val (.int (0 : Int32)), .val (.int (3 : Int32)), .val (.int v7), .val (.int v13), .unset, .unset, .unset, .unset] [])) rfl (hb hby own_d1_15)
  have in7 : ¬ (v7 < 0 ∨ cL.slots.size ≤ (v7).toNatClampNeg) := inb_of szcL hv7r
  obtain ⟨v20, hv20⟩ : ∃ w : Int32, w = (own_loT v7) := ⟨_, rfl⟩
  have pre8 : ∀ t, Steps p.tables e below (T6.setTop (mkF m 22 #[.val (.ref xarr), .val (.int (0 : Int32)), .val (.int (3 : Int32)), .val (.int v7), .val (.int v13), .val (.int v20), .unset, .unset, .unset] [])) t → Steps p.tables e below (s₁.setTop (entryFrame m #[(.ref xarr), (.int (0 : Int32)), (.int (3 : Int32))] 9)) t := by
    intro t k
    rw [hv20] at k
    refine pre5 _ ?_
    show Steps p.tables e below (T3.setTop (mkF m 15 #[.val (.ref xarr), .val (.int (0 : Int32)), .val (.int (3 : Int32)), .val (.int v7), .val (.int v13), .unset, .unset, .unset, .unset] [])) _
    refine st6 _ ?_
    show Steps p.tables e below (T6.setTop (mkF m 18 #[.val (.ref xarr), .val (.int (0 : Int32)), .val (.int (3 : Int32)), .val (.int v7), .val (.int v13), .unset, .unset, .unset, .unset] [(.ref wL)])) _
    refine XS.iloadN X6.here hx rfl (hb hby own_d1_18) rfl ?_
    show Steps p.tables e below (T6.setTop (mkF m 19 #[.val (.ref xarr), .val (.int (0 : Int32)), .val (.int (3 : Int32)), .val (.int v7), .val (.int v13), .unset, .unset, .unset, .unset] [(.int v7), (.ref wL)])) _
    refine X6.iaload hx (j := v7) (v := (.int (own_loT v7))) (by rw [e6]; exact R_wL.1) (State.isArrayOf_alike hZ.alike R_wL.2.1) R_wL.2.2 in7 (tacL _ in7) (g := (mkF m 19 #[.val (.ref xarr), .val (.int (0 : Int32)), .val (.int (3 : Int32)), .val (.int v7), .val (.int v13), .unset, .unset, .unset, .unset] [(.int v7), (.ref wL)])) rfl rfl (hb hby own_d1_19) _ ?_
    show Steps p.tables e below (T6.setTop (mkF m 20 #[.val (.ref xarr), .val (.int (0 : Int32)), .val (.int (3 : Int32)), .val (.int v7), .val (.int v13), .unset, .unset, .unset, .unset] [(.int (own_loT v7))])) _
    refine XS.istore X6.here hx rfl (hb hby own_d1_20) rfl (l' := #[.val (.ref xarr), .val (.int (0 : Int32)), .val (.int (3 : Int32)), .val (.int v7), .val (.int v13), .val (.int (own_loT v7)), .unset, .unset, .unset]) rfl ?_
    exact k
  obtain ⟨T9, X9, e9, st9⟩ := getS2 X6 hx hZ hown (host := "") (Or.inl (hw _ (List.mem_of_getElem? (i := 9) rfl))) Via.refl e6 S_SECOND_HIGHEST (g := (mkF m 22 #[.val (.ref xarr), .val (.int (0 : Int32)), .val (.int (3 : Int32)), .val (.int v7), .val (.int v13), .val (.int v20), .unset, .unset, .unset] [])) rfl (hb hby own_d1_22)
  have in10 : ¬ (v7 < 0 ∨ cH.slots.size ≤ (v7).toNatClampNeg) := inb_of szcH hv7r
  obtain ⟨v27, hv27⟩ : ∃ w : Int32, w = (own_hiT v7) := ⟨_, rfl⟩
  have pre11 : ∀ t, Steps p.tables e below (T9.setTop (mkF m 29 #[.val (.ref xarr), .val (.int (0 : Int32)), .val (.int (3 : Int32)), .val (.int v7), .val (.int v13), .val (.int v20), .val (.int v27), .unset, .unset] [])) t → Steps p.tables e below (s₁.setTop (entryFrame m #[(.ref xarr), (.int (0 : Int32)), (.int (3 : Int32))] 9)) t := by
    intro t k
    rw [hv27] at k
    refine pre8 _ ?_
    show Steps p.tables e below (T6.setTop (mkF m 22 #[.val (.ref xarr), .val (.int (0 : Int32)), .val (.int (3 : Int32)), .val (.int v7), .val (.int v13), .val (.int v20), .unset, .unset, .unset] [])) _
    refine st9 _ ?_
    show Steps p.tables e below (T9.setTop (mkF m 25 #[.val (.ref xarr), .val (.int (0 : Int32)), .val (.int (3 : Int32)), .val (.int v7), .val (.int v13), .val (.int v20), .unset, .unset, .unset] [(.ref wH)])) _
    refine XS.iloadN X9.here hx rfl (hb hby own_d1_25) rfl ?_
    show Steps p.tables e below (T9.setTop (mkF m 26 #[.val (.ref xarr), .val (.int (0 : Int32)), .val (.int (3 : Int32)), .val (.int v7), .val (.int v13), .val (.int v20), .unset, .unset, .unset] [(.int v7), (.ref wH)])) _
    refine X9.iaload hx (j := v7) (v := (.int (own_hiT v7))) (by rw [e9]; exact R_wH.1) (State.isArrayOf_alike hZ.alike R_wH.2.1) R_wH.2.2 in10 (tacH _ in10) (g := (mkF m 26 #[.val (.ref xarr), .val (.int (0 : Int32)), .val (.int (3 : Int32)), .val (.int v7), .val (.int v13), .val (.int v20), .unset, .unset, .unset] [(.int v7), (.ref wH)])) rfl rfl (hb hby own_d1_26) _ ?_
    show Steps p.tables e below (T9.setTop (mkF m 27 #[.val (.ref xarr), .val (.int (0 : Int32)), .val (.int (3 : Int32)), .val (.int v7), .val (.int v13), .val (.int v20), .unset, .unset, .unset] [(.int (own_hiT v7))])) _
    refine XS.istore X9.here hx rfl (hb hby own_d1_27) rfl (l' := #[.val (.ref xarr), .val (.int (0 : Int32)), .val (.int (3 : Int32)), .val (.int v7), .val (.int v13), .val (.int v20), .val (.int (own_hiT v7)), .unset, .unset]) rfl ?_
    exact k
  have pre12 : ∀ t, Steps p.tables e below (T9.setTop (mkF m 36 #[.val (.ref xarr), .val (.int (0 : Int32)), .val (.int (3 : Int32)), .val (.int v7), .val (.int v13), .val (.int v20), .val (.int v27), .val (.int (1 : Int32)), .unset] [(.int v13), (.int (1 : Int32))])) t → Steps p.tables e below (s₁.setTop (entryFrame m #[(.ref xarr), (.int (0 : Int32)), (.int (3 : Int32))] 9)) t := by
    intro t k
    refine pre11 _ ?_
    show Steps p.tables e below (T9.setTop (mkF m 29 #[.val (.ref xarr), .val (.int (0 : Int32)), .val (.int (3 : Int32)), .val (.int v7), .val (.int v13), .val (.int v20), .val (.int v27), .unset, .unset] [])) _
    refine XS.iconst X9.here hx rfl (hb hby own_d1_29) ?_
    show Steps p.tables e below (T9.setTop (mkF m 30 #[.val (.ref xarr), .val (.int (0 : Int32)), .val (.int (3 : Int32)), .val (.int v7), .val (.int v13), .val (.int v20), .val (.int v27), .unset, .unset] [(.int (1 : Int32))])) _
    refine XS.istore X9.here hx rfl (hb hby own_d1_30) rfl (l' := #[.val (.ref xarr), .val (.int (0 : Int32)), .val (.int (3 : Int32)), .val (.int v7), .val (.int v13), .val (.int v20), .val (.int v27), .val (.int (1 : Int32)), .unset]) rfl ?_
    show Steps p.tables e below (T9.setTop (mkF m 32 #[.val (.ref xarr), .val (.int (0 : Int32)), .val (.int (3 : Int32)), .val (.int v7), .val (.int v13), .val (.int v20), .val (.int v27), .val (.int (1 : Int32)), .unset] [])) _
    refine XS.iload X9.here hx rfl (hb hby own_d1_32) rfl ?_
    show Steps p.tables e below (T9.setTop (mkF m 34 #[.val (.ref xarr), .val (.int (0 : Int32)), .val (.int (3 : Int32)), .val (.int v7), .val (.int v13), .val (.int v20), .val (.int v27), .val (.int (1 : Int32)), .unset] [(.int (1 : Int32))])) _
    refine XS.iload X9.here hx rfl (hb hby own_d1_34) rfl ?_
    exact k
  by_cases hc36 : (1 : Int32) < v13
  · have hd13 : ¬ ((1 : Int32) = (3 : Int32)) := (by decide)
    obtain ⟨cl14, Ar14, q14, S14, M14, H14, G14⟩ := id A_xarr
    have in14 := inb_of S14 (j := (1 : Int32)) ⟨by decide, by decide⟩
    obtain ⟨v59, hv59⟩ : ∃ w : Int32, w = (z1 &&& (255 : Int32)) := ⟨_, rfl⟩
    have pre15 : ∀ t, Steps p.tables e below (T9.setTop (mkF m 61 #[.val (.ref xarr), .val (.int (0 : Int32)), .val (.int (3 : Int32)), .val (.int v7), .val (.int v13), .val (.int v20), .val (.int v27), .val (.int (1 : Int32)), .val (.int v59)] [])) t → Steps p.tables e below (s₁.setTop (entryFrame m #[(.ref xarr), (.int (0 : Int32)), (.int (3 : Int32))] 9)) t := by
      intro t k
      rw [hv59] at k
      refine pre12 _ ?_
      show Steps p.tables e below (T9.setTop (mkF m 36 #[.val (.ref xarr), .val (.int (0 : Int32)), .val (.int (3 : Int32)), .val (.int v7), .val (.int v13), .val (.int v20), .val (.int v27), .val (.int (1 : Int32)), .unset] [(.int v13), (.int (1 : Int32))])) _
      refine XS.icmpNo X9.here hx rfl (hb hby own_d1_36) rfl (tlt hc36).2.1 ?_
      show Steps p.tables e below (T9.setTop (mkF m 39 #[.val (.ref xarr), .val (.int (0 : Int32)), .val (.int (3 : Int32)), .val (.int v7), .val (.int v13), .val (.int v20), .val (.int v27), .val (.int (1 : Int32)), .unset] [])) _
      refine XS.iloadN X9.here hx rfl (hb hby own_d1_39) rfl ?_
      show Steps p.tables e below (T9.setTop (mkF m 40 #[.val (.ref xarr), .val (.int (0 : Int32)), .val (.int (3 : Int32)), .val (.int v7), .val (.int v13), .val (.int v20), .val (.int v27), .val (.int (1 : Int32)), .unset] [(.int (0 : Int32))])) _
      refine XS.iload X9.here hx rfl (hb hby own_d1_40) rfl ?_
      show Steps p.tables e below (T9.setTop (mkF m 42 #[.val (.ref xarr), .val (.int (0 : Int32)), .val (.int (3 : Int32)), .val (.int v7), .val (.int v13), .val (.int v20), .val (.int v27), .val (.int (1 : Int32)), .unset] [(.int (1 : Int32)), (.int (0 : Int32))])) _
      refine XS.iadd X9.here hx rfl (hb hby own_d1_42) rfl ?_
      show Steps p.tables e below (T9.setTop (mkF m 43 #[.val (.ref xarr), .val (.int (0 : Int32)), .val (.int (3 : Int32)), .val (.int v7), .val (.int v13), .val (.int v20), .val (.int v27), .val (.int (1 : Int32)), .unset] [(.int (1 : Int32))])) _
      refine XS.iloadN X9.here hx rfl (hb hby own_d1_43) rfl ?_
      show Steps p.tables e below (T9.setTop (mkF m 44 #[.val (.ref xarr), .val (.int (0 : Int32)), .val (.int (3 : Int32)), .val (.int v7), .val (.int v13), .val (.int v20), .val (.int v27), .val (.int (1 : Int32)), .unset] [(.int (3 : Int32)), (.int (1 : Int32))])) _
      refine XS.icmpYes X9.here hx rfl (pc0 := 44) (pc' := 49) rfl (hb hby own_d1_44) rfl (feq hd13).2 (by decide) (by decide) ?_
      show Steps p.tables e below (T9.setTop (mkF m 49 #[.val (.ref xarr), .val (.int (0 : Int32)), .val (.int (3 : Int32)), .val (.int v7), .val (.int v13), .val (.int v20), .val (.int v27), .val (.int (1 : Int32)), .unset] [])) _
      refine XS.aloadN X9.here hx rfl (hb hby own_d1_49) rfl rfl ?_
      show Steps p.tables e below (T9.setTop (mkF m 50 #[.val (.ref xarr), .val (.int (0 : Int32)), .val (.int (3 : Int32)), .val (.int v7), .val (.int v13), .val (.int v20), .val (.int v27), .val (.int (1 : Int32)), .unset] [(.ref xarr)])) _
      refine XS.iloadN X9.here hx rfl (hb hby own_d1_50) rfl ?_
      show Steps p.tables e below (T9.setTop (mkF m 51 #[.val (.ref xarr), .val (.int (0 : Int32)), .val (.int (3 : Int32)), .val (.int v7), .val (.int v13), .val (.int v20), .val (.int v27), .val (.int (1 : Int32)), .unset] [(.int (0 : Int32)), (.ref xarr)])) _
      refine XS.iload X9.here hx rfl (hb hby own_d1_51) rfl ?_
      show Steps p.tables e below (T9.setTop (mkF m 53 #[.val (.ref xarr), .val (.int (0 : Int32)), .val (.int (3 : Int32)), .val (.int v7), .val (.int v13), .val (.int v20), .val (.int v27), .val (.int (1 : Int32)), .unset] [(.int (1 : Int32)), (.int (0 : Int32)), (.ref xarr)])) _
      refine XS.iadd X9.here hx rfl (hb hby own_d1_53) rfl ?_
      show Steps p.tables e below (T9.setTop (mkF m 54 #[.val (.ref xarr), .val (.int (0 : Int32)), .val (.int (3 : Int32)), .val (.int v7), .val (.int v13), .val (.int v20), .val (.int v27), .val (.int (1 : Int32)), .unset] [(.int (1 : Int32)), (.ref xarr)])) _
      refine X9.baloadBytes hx (j := (1 : Int32)) (v := (.int z1)) (by rw [e9]; exact Ar14.1) (State.isArrayOf_alike hZ.alike Ar14.2.1) Ar14.2.2 in14 (H14.at in14 rfl) (g := (mkF m 54 #[.val (.ref xarr), .val (.int (0 : Int32)), .val (.int (3 : Int32)), .val (.int v7), .val (.int v13), .val (.int v20), .val (.int v27), .val (.int (1 : Int32)), .unset] [(.int (1 : Int32)), (.ref xarr)])) rfl rfl (hb hby own_d1_54) _ ?_
      show Steps p.tables e below (T9.setTop (mkF m 55 #[.val (.ref xarr), .val (.int (0 : Int32)), .val (.int (3 : Int32)), .val (.int v7), .val (.int v13), .val (.int v20), .val (.int v27), .val (.int (1 : Int32)), .unset] [(.int z1)])) _
      refine XS.sipush X9.here hx rfl (hb hby own_d1_55) ?_
      show Steps p.tables e below (T9.setTop (mkF m 58 #[.val (.ref xarr), .val (.int (0 : Int32)), .val (.int (3 : Int32)), .val (.int v7), .val (.int v13), .val (.int v20), .val (.int v27), .val (.int (1 : Int32)), .unset] [(.int (255 : Int32)), (.int z1)])) _
      refine XS.iand X9.here hx rfl (hb hby own_d1_58) rfl ?_
      show Steps p.tables e below (T9.setTop (mkF m 59 #[.val (.ref xarr), .val (.int (0 : Int32)), .val (.int (3 : Int32)), .val (.int v7), .val (.int v13), .val (.int v20), .val (.int v27), .val (.int (1 : Int32)), .unset] [(.int (z1 &&& (255 : Int32)))])) _
      refine XS.istore X9.here hx rfl (hb hby own_d1_59) rfl (l' := #[.val (.ref xarr), .val (.int (0 : Int32)), .val (.int (3 : Int32)), .val (.int v7), .val (.int v13), .val (.int v20), .val (.int v27), .val (.int (1 : Int32)), .val (.int (z1 &&& (255 : Int32)))]) rfl ?_
      exact k
    have pre16 : ∀ t, Steps p.tables e below (T9.setTop (mkF m 65 #[.val (.ref xarr), .val (.int (0 : Int32)), .val (.int (3 : Int32)), .val (.int v7), .val (.int v13), .val (.int v20), .val (.int v27), .val (.int (1 : Int32)), .val (.int v59)] [(.int v20), (.int v59)])) t → Steps p.tables e below (s₁.setTop (entryFrame m #[(.ref xarr), (.int (0 : Int32)), (.int (3 : Int32))] 9)) t := by
      intro t k
      refine pre15 _ ?_
      show Steps p.tables e below (T9.setTop (mkF m 61 #[.val (.ref xarr), .val (.int (0 : Int32)), .val (.int (3 : Int32)), .val (.int v7), .val (.int v13), .val (.int v20), .val (.int v27), .val (.int (1 : Int32)), .val (.int v59)] [])) _
      refine XS.iload X9.here hx rfl (hb hby own_d1_61) rfl ?_
      show Steps p.tables e below (T9.setTop (mkF m 63 #[.val (.ref xarr), .val (.int (0 : Int32)), .val (.int (3 : Int32)), .val (.int v7), .val (.int v13), .val (.int v20), .val (.int v27), .val (.int (1 : Int32)), .val (.int v59)] [(.int v59)])) _
      refine XS.iload X9.here hx rfl (hb hby own_d1_63) rfl ?_
      exact k
    by_cases hc65 : v59 < v20
    · obtain ⟨fs, hr, hrun, hended, hW, hsame⟩ := X9.leave (v := some (.int (-1 : Int32))) (fun h => by rw [Bd.returns] at h; cases h)
      have ev17 : (own_cs 3 (z0 &&& (255 : Int32)) (z1 &&& (255 : Int32)) (z2 &&& (255 : Int32)) (z3 &&& (255 : Int32))) = (-1 : Int32) := by
        have hq := hv13
        simp only [own_cs, own_g2, own_g3, own_g4, ← hv7, ← hv13, ← hv20, ← hv27, ← hv59]
        simp [hc36, hc65]
      refine ⟨_, _, pre16 _ ?_, hrun, hended, _, _, rfl, ?_, ⟨_, rfl⟩, hW, hsame.mono (by decide) (by decide)⟩
      · show Steps p.tables e below (T9.setTop (mkF m 65 #[.val (.ref xarr), .val (.int (0 : Int32)), .val (.int (3 : Int32)), .val (.int v7), .val (.int v13), .val (.int v20), .val (.int v27), .val (.int (1 : Int32)), .val (.int v59)] [(.int v20), (.int v59)])) _
        refine XS.icmpYes X9.here hx rfl (pc0 := 65) (pc' := 75) rfl (hb hby own_d1_65) rfl (tlt hc65).1 (by decide) (by decide) ?_
        show Steps p.tables e below (T9.setTop (mkF m 75 #[.val (.ref xarr), .val (.int (0 : Int32)), .val (.int (3 : Int32)), .val (.int v7), .val (.int v13), .val (.int v20), .val (.int v27), .val (.int (1 : Int32)), .val (.int v59)] [])) _
        refine XS.iconst X9.here hx rfl (hb hby own_d1_75) ?_
        show Steps p.tables e below (T9.setTop (mkF m 76 #[.val (.ref xarr), .val (.int (0 : Int32)), .val (.int (3 : Int32)), .val (.int v7), .val (.int v13), .val (.int v20), .val (.int v27), .val (.int (1 : Int32)), .val (.int v59)] [(.int (-1 : Int32))])) _
        exact retI X9 hx Bd.returns (hb hby own_d1_76) hr
      · show own_Q1_0_3 Z xarr xk z0 z1 z2 z3 z4 wS cS wL cL wH cH h0 n0 _ T9.heap _
        rw [e9]
        exact ⟨(by rw [ev17]), N0, rfl⟩
    · have pre18 : ∀ t, Steps p.tables e below (T9.setTop (mkF m 72 #[.val (.ref xarr), .val (.int (0 : Int32)), .val (.int (3 : Int32)), .val (.int v7), .val (.int v13), .val (.int v20), .val (.int v27), .val (.int (1 : Int32)), .val (.int v59)] [(.int v27), (.int v59)])) t → Steps p.tables e below (s₁.setTop (entryFrame m #[(.ref xarr), (.int (0 : Int32)), (.int (3 : Int32))] 9)) t := by
        intro t k
        refine pre16 _ ?_
        show Steps p.tables e below (T9.setTop (mkF m 65 #[.val (.ref xarr), .val (.int (0 : Int32)), .val (.int (3 : Int32)), .val (.int v7), .val (.int v13), .val (.int v20), .val (.int v27), .val (.int (1 : Int32)), .val (.int v59)] [(.int v20), (.int v59)])) _
        refine XS.icmpNo X9.here hx rfl (hb hby own_d1_65) rfl (flt hc65).1 ?_
        show Steps p.tables e below (T9.setTop (mkF m 68 #[.val (.ref xarr), .val (.int (0 : Int32)), .val (.int (3 : Int32)), .val (.int v7), .val (.int v13), .val (.int v20), .val (.int v27), .val (.int (1 : Int32)), .val (.int v59)] [])) _
        refine XS.iload X9.here hx rfl (hb hby own_d1_68) rfl ?_
        show Steps p.tables e below (T9.setTop (mkF m 70 #[.val (.ref xarr), .val (.int (0 : Int32)), .val (.int (3 : Int32)), .val (.int v7), .val (.int v13), .val (.int v20), .val (.int v27), .val (.int (1 : Int32)), .val (.int v59)] [(.int v59)])) _
        refine XS.iload X9.here hx rfl (hb hby own_d1_70) rfl ?_
        exact k
      by_cases hc72 : v27 < v59
      · obtain ⟨fs, hr, hrun, hended, hW, hsame⟩ := X9.leave (v := some (.int (-1 : Int32))) (fun h => by rw [Bd.returns] at h; cases h)
        have ev19 : (own_cs 3 (z0 &&& (255 : Int32)) (z1 &&& (255 : Int32)) (z2 &&& (255 : Int32)) (z3 &&& (255 : Int32))) = (-1 : Int32) := by
          have hq := hv13
          simp only [own_cs, own_g2, own_g3, own_g4, ← hv7, ← hv13, ← hv20, ← hv27, ← hv59]
          simp [hc36, hc65, hc72]
        refine ⟨_, _, pre18 _ ?_, hrun, hended, _, _, rfl, ?_, ⟨_, rfl⟩, hW, hsame.mono (by decide) (by decide)⟩
        · show Steps p.tables e below (T9.setTop (mkF m 72 #[.val (.ref xarr), .val (.int (0 : Int32)), .val (.int (3 : Int32)), .val (.int v7), .val (.int v13), .val (.int v20), .val (.int v27), .val (.int (1 : Int32)), .val (.int v59)] [(.int v27), (.int v59)])) _
          refine XS.icmpNo X9.here hx rfl (hb hby own_d1_72) rfl (tlt hc72).2.2.2 ?_
          show Steps p.tables e below (T9.setTop (mkF m 75 #[.val (.ref xarr), .val (.int (0 : Int32)), .val (.int (3 : Int32)), .val (.int v7), .val (.int v13), .val (.int v20), .val (.int v27), .val (.int (1 : Int32)), .val (.int v59)] [])) _
          refine XS.iconst X9.here hx rfl (hb hby own_d1_75) ?_
          show Steps p.tables e below (T9.setTop (mkF m 76 #[.val (.ref xarr), .val (.int (0 : Int32)), .val (.int (3 : Int32)), .val (.int v7), .val (.int v13), .val (.int v20), .val (.int v27), .val (.int (1 : Int32)), .val (.int v59)] [(.int (-1 : Int32))])) _
          exact retI X9 hx Bd.returns (hb hby own_d1_76) hr
        · show own_Q1_0_3 Z xarr xk z0 z1 z2 z3 z4 wS cS wL cL wH cH h0 n0 _ T9.heap _
          rw [e9]
          exact ⟨(by rw [ev19]), N0, rfl⟩
      · have pre20 : ∀ t, Steps p.tables e below (T9.setTop (mkF m 36 #[.val (.ref xarr), .val (.int (0 : Int32)), .val (.int (3 : Int32)), .val (.int v7), .val (.int v13), .val (.int (128 : Int32)), .val (.int (191 : Int32)), .val (.int (2 : Int32)), .val (.int v59)] [(.int v13), (.int (2 : Int32))])) t → Steps p.tables e below (s₁.setTop (entryFrame m #[(.ref xarr), (.int (0 : Int32)), (.int (3 : Int32))] 9)) t := by
          intro t k
          refine pre18 _ ?_
          show Steps p.tables e below (T9.setTop (mkF m 72 #[.val (.ref xarr), .val (.int (0 : Int32)), .val (.int (3 : Int32)), .val (.int v7), .val (.int v13), .val (.int v20), .val (.int v27), .val (.int (1 : Int32)), .val (.int v59)] [(.int v27), (.int v59)])) _
          refine XS.icmpYes X9.here hx rfl (pc0 := 72) (pc' := 77) rfl (hb hby own_d1_72) rfl (flt hc72).2.2.2 (by decide) (by decide) ?_
          show Steps p.tables e below (T9.setTop (mkF m 77 #[.val (.ref xarr), .val (.int (0 : Int32)), .val (.int (3 : Int32)), .val (.int v7), .val (.int v13), .val (.int v20), .val (.int v27), .val (.int (1 : Int32)), .val (.int v59)] [])) _
          refine XS.sipush X9.here hx rfl (hb hby own_d1_77) ?_
          show Steps p.tables e below (T9.setTop (mkF m 80 #[.val (.ref xarr), .val (.int (0 : Int32)), .val (.int (3 : Int32)), .val (.int v7), .val (.int v13), .val (.int v20), .val (.int v27), .val (.int (1 : Int32)), .val (.int v59)] [(.int (128 : Int32))])) _
          refine XS.istore X9.here hx rfl (hb hby own_d1_80) rfl (l' := #[.val (.ref xarr), .val (.int (0 : Int32)), .val (.int (3 : Int32)), .val (.int v7), .val (.int v13), .val (.int (128 : Int32)), .val (.int v27), .val (.int (1 : Int32)), .val (.int v59)]) rfl ?_
          show Steps p.tables e below (T9.setTop (mkF m 82 #[.val (.ref xarr), .val (.int (0 : Int32)), .val (.int (3 : Int32)), .val (.int v7), .val (.int v13), .val (.int (128 : Int32)), .val (.int v27), .val (.int (1 : Int32)), .val (.int v59)] [])) _
          refine XS.sipush X9.here hx rfl (hb hby own_d1_82) ?_
          show Steps p.tables e below (T9.setTop (mkF m 85 #[.val (.ref xarr), .val (.int (0 : Int32)), .val (.int (3 : Int32)), .val (.int v7), .val (.int v13), .val (.int (128 : Int32)), .val (.int v27), .val (.int (1 : Int32)), .val (.int v59)] [(.int (191 : Int32))])) _
          refine XS.istore X9.here hx rfl (hb hby own_d1_85) rfl (l' := #[.val (.ref xarr), .val (.int (0 : Int32)), .val (.int (3 : Int32)), .val (.int v7), .val (.int v13), .val (.int (128 : Int32)), .val (.int (191 : Int32)), .val (.int (1 : Int32)), .val (.int v59)]) rfl ?_
          show Steps p.tables e below (T9.setTop (mkF m 87 #[.val (.ref xarr), .val (.int (0 : Int32)), .val (.int (3 : Int32)), .val (.int v7), .val (.int v13), .val (.int (128 : Int32)), .val (.int (191 : Int32)), .val (.int (1 : Int32)), .val (.int v59)] [])) _
          refine XS.iinc X9.here hx rfl (hb hby own_d1_87) rfl (l' := #[.val (.ref xarr), .val (.int (0 : Int32)), .val (.int (3 : Int32)), .val (.int v7), .val (.int v13), .val (.int (128 : Int32)), .val (.int (191 : Int32)), .val (.int (2 : Int32)), .val (.int v59)]) rfl ?_
          show Steps p.tables e below (T9.setTop (mkF m 90 #[.val (.ref xarr), .val (.int (0 : Int32)), .val (.int (3 : Int32)), .val (.int v7), .val (.int v13), .val (.int (128 : Int32)), .val (.int (191 : Int32)), .val (.int (2 : Int32)), .val (.int v59)] [])) _
          refine XS.goto X9.here hx rfl (pc0 := 90) (pc' := 32) rfl (hb hby own_d1_90) (by decide) (by decide) ?_
          show Steps p.tables e below (T9.setTop (mkF m 32 #[.val (.ref xarr), .val (.int (0 : Int32)), .val (.int (3 : Int32)), .val (.int v7), .val (.int v13), .val (.int (128 : Int32)), .val (.int (191 : Int32)), .val (.int (2 : Int32)), .val (.int v59)] [])) _
          refine XS.iload X9.here hx rfl (hb hby own_d1_32) rfl ?_
          show Steps p.tables e below (T9.setTop (mkF m 34 #[.val (.ref xarr), .val (.int (0 : Int32)), .val (.int (3 : Int32)), .val (.int v7), .val (.int v13), .val (.int (128 : Int32)), .val (.int (191 : Int32)), .val (.int (2 : Int32)), .val (.int v59)] [(.int (2 : Int32))])) _
          refine XS.iload X9.here hx rfl (hb hby own_d1_34) rfl ?_
          exact k
        by_cases hc36_2 : (2 : Int32) < v13
        · have hd21 : ¬ ((2 : Int32) = (3 : Int32)) := (by decide)
          obtain ⟨cl22, Ar22, q22, S22, M22, H22, G22⟩ := id A_xarr
          have in22 := inb_of S22 (j := (2 : Int32)) ⟨by decide, by decide⟩
          obtain ⟨v59_1, hv59_1⟩ : ∃ w : Int32, w = (z2 &&& (255 : Int32)) := ⟨_, rfl⟩
          have pre23 : ∀ t, Steps p.tables e below (T9.setTop (mkF m 61 #[.val (.ref xarr), .val (.int (0 : Int32)), .val (.int (3 : Int32)), .val (.int v7), .val (.int v13), .val (.int (128 : Int32)), .val (.int (191 : Int32)), .val (.int (2 : Int32)), .val (.int v59_1)] [])) t → Steps p.tables e below (s₁.setTop (entryFrame m #[(.ref xarr), (.int (0 : Int32)), (.int (3 : Int32))] 9)) t := by
            intro t k
            rw [hv59_1] at k
            refine pre20 _ ?_
            show Steps p.tables e below (T9.setTop (mkF m 36 #[.val (.ref xarr), .val (.int (0 : Int32)), .val (.int (3 : Int32)), .val (.int v7), .val (.int v13), .val (.int (128 : Int32)), .val (.int (191 : Int32)), .val (.int (2 : Int32)), .val (.int v59)] [(.int v13), (.int (2 : Int32))])) _
            refine XS.icmpNo X9.here hx rfl (hb hby own_d1_36) rfl (tlt hc36_2).2.1 ?_
            show Steps p.tables e below (T9.setTop (mkF m 39 #[.val (.ref xarr), .val (.int (0 : Int32)), .val (.int (3 : Int32)), .val (.int v7), .val (.int v13), .val (.int (128 : Int32)), .val (.int (191 : Int32)), .val (.int (2 : Int32)), .val (.int v59)] [])) _
            refine XS.iloadN X9.here hx rfl (hb hby own_d1_39) rfl ?_
            show Steps p.tables e below (T9.setTop (mkF m 40 #[.val (.ref xarr), .val (.int (0 : Int32)), .val (.int (3 : Int32)), .val (.int v7), .val (.int v13), .val (.int (128 : Int32)), .val (.int (191 : Int32)), .val (.int (2 : Int32)), .val (.int v59)] [(.int (0 : Int32))])) _
            refine XS.iload X9.here hx rfl (hb hby own_d1_40) rfl ?_
            show Steps p.tables e below (T9.setTop (mkF m 42 #[.val (.ref xarr), .val (.int (0 : Int32)), .val (.int (3 : Int32)), .val (.int v7), .val (.int v13), .val (.int (128 : Int32)), .val (.int (191 : Int32)), .val (.int (2 : Int32)), .val (.int v59)] [(.int (2 : Int32)), (.int (0 : Int32))])) _
            refine XS.iadd X9.here hx rfl (hb hby own_d1_42) rfl ?_
            show Steps p.tables e below (T9.setTop (mkF m 43 #[.val (.ref xarr), .val (.int (0 : Int32)), .val (.int (3 : Int32)), .val (.int v7), .val (.int v13), .val (.int (128 : Int32)), .val (.int (191 : Int32)), .val (.int (2 : Int32)), .val (.int v59)] [(.int (2 : Int32))])) _
            refine XS.iloadN X9.here hx rfl (hb hby own_d1_43) rfl ?_
            show Steps p.tables e below (T9.setTop (mkF m 44 #[.val (.ref xarr), .val (.int (0 : Int32)), .val (.int (3 : Int32)), .val (.int v7), .val (.int v13), .val (.int (128 : Int32)), .val (.int (191 : Int32)), .val (.int (2 : Int32)), .val (.int v59)] [(.int (3 : Int32)), (.int (2 : Int32))])) _
            refine XS.icmpYes X9.here hx rfl (pc0 := 44) (pc' := 49) rfl (hb hby own_d1_44) rfl (feq hd21).2 (by decide) (by decide) ?_
            show Steps p.tables e below (T9.setTop (mkF m 49 #[.val (.ref xarr), .val (.int (0 : Int32)), .val (.int (3 : Int32)), .val (.int v7), .val (.int v13), .val (.int (128 : Int32)), .val (.int (191 : Int32)), .val (.int (2 : Int32)), .val (.int v59)] [])) _
            refine XS.aloadN X9.here hx rfl (hb hby own_d1_49) rfl rfl ?_
            show Steps p.tables e below (T9.setTop (mkF m 50 #[.val (.ref xarr), .val (.int (0 : Int32)), .val (.int (3 : Int32)), .val (.int v7), .val (.int v13), .val (.int (128 : Int32)), .val (.int (191 : Int32)), .val (.int (2 : Int32)), .val (.int v59)] [(.ref xarr)])) _
            refine XS.iloadN X9.here hx rfl (hb hby own_d1_50) rfl ?_
            show Steps p.tables e below (T9.setTop (mkF m 51 #[.val (.ref xarr), .val (.int (0 : Int32)), .val (.int (3 : Int32)), .val (.int v7), .val (.int v13), .val (.int (128 : Int32)), .val (.int (191 : Int32)), .val (.int (2 : Int32)), .val (.int v59)] [(.int (0 : Int32)), (.ref xarr)])) _
            refine XS.iload X9.here hx rfl (hb hby own_d1_51) rfl ?_
            show Steps p.tables e below (T9.setTop (mkF m 53 #[.val (.ref xarr), .val (.int (0 : Int32)), .val (.int (3 : Int32)), .val (.int v7), .val (.int v13), .val (.int (128 : Int32)), .val (.int (191 : Int32)), .val (.int (2 : Int32)), .val (.int v59)] [(.int (2 : Int32)), (.int (0 : Int32)), (.ref xarr)])) _
            refine XS.iadd X9.here hx rfl (hb hby own_d1_53) rfl ?_
            show Steps p.tables e below (T9.setTop (mkF m 54 #[.val (.ref xarr), .val (.int (0 : Int32)), .val (.int (3 : Int32)), .val (.int v7), .val (.int v13), .val (.int (128 : Int32)), .val (.int (191 : Int32)), .val (.int (2 : Int32)), .val (.int v59)] [(.int (2 : Int32)), (.ref xarr)])) _
            refine X9.baloadBytes hx (j := (2 : Int32)) (v := (.int z2)) (by rw [e9]; exact Ar22.1) (State.isArrayOf_alike hZ.alike Ar22.2.1) Ar22.2.2 in22 (H22.at in22 rfl) (g := (mkF m 54 #[.val (.ref xarr), .val (.int (0 : Int32)), .val (.int (3 : Int32)), .val (.int v7), .val (.int v13), .val (.int (128 : Int32)), .val (.int (191 : Int32)), .val (.int (2 : Int32)), .val (.int v59)] [(.int (2 : Int32)), (.ref xarr)])) rfl rfl (hb hby own_d1_54) _ ?_
            show Steps p.tables e below (T9.setTop (mkF m 55 #[.val (.ref xarr), .val (.int (0 : Int32)), .val (.int (3 : Int32)), .val (.int v7), .val (.int v13), .val (.int (128 : Int32)), .val (.int (191 : Int32)), .val (.int (2 : Int32)), .val (.int v59)] [(.int z2)])) _
            refine XS.sipush X9.here hx rfl (hb hby own_d1_55) ?_
            show Steps p.tables e below (T9.setTop (mkF m 58 #[.val (.ref xarr), .val (.int (0 : Int32)), .val (.int (3 : Int32)), .val (.int v7), .val (.int v13), .val (.int (128 : Int32)), .val (.int (191 : Int32)), .val (.int (2 : Int32)), .val (.int v59)] [(.int (255 : Int32)), (.int z2)])) _
            refine XS.iand X9.here hx rfl (hb hby own_d1_58) rfl ?_
            show Steps p.tables e below (T9.setTop (mkF m 59 #[.val (.ref xarr), .val (.int (0 : Int32)), .val (.int (3 : Int32)), .val (.int v7), .val (.int v13), .val (.int (128 : Int32)), .val (.int (191 : Int32)), .val (.int (2 : Int32)), .val (.int v59)] [(.int (z2 &&& (255 : Int32)))])) _
            refine XS.istore X9.here hx rfl (hb hby own_d1_59) rfl (l' := #[.val (.ref xarr), .val (.int (0 : Int32)), .val (.int (3 : Int32)), .val (.int v7), .val (.int v13), .val (.int (128 : Int32)), .val (.int (191 : Int32)), .val (.int (2 : Int32)), .val (.int (z2 &&& (255 : Int32)))]) rfl ?_
            exact k
          have pre24 : ∀ t, Steps p.tables e below (T9.setTop (mkF m 65 #[.val (.ref xarr), .val (.int (0 : Int32)), .val (.int (3 : Int32)), .val (.int v7), .val (.int v13), .val (.int (128 : Int32)), .val (.int (191 : Int32)), .val (.int (2 : Int32)), .val (.int v59_1)] [(.int (128 : Int32)), (.int v59_1)])) t → Steps p.tables e below (s₁.setTop (entryFrame m #[(.ref xarr), (.int (0 : Int32)), (.int (3 : Int32))] 9)) t := by
            intro t k
            refine pre23 _ ?_
            show Steps p.tables e below (T9.setTop (mkF m 61 #[.val (.ref xarr), .val (.int (0 : Int32)), .val (.int (3 : Int32)), .val (.int v7), .val (.int v13), .val (.int (128 : Int32)), .val (.int (191 : Int32)), .val (.int (2 : Int32)), .val (.int v59_1)] [])) _
            refine XS.iload X9.here hx rfl (hb hby own_d1_61) rfl ?_
            show Steps p.tables e below (T9.setTop (mkF m 63 #[.val (.ref xarr), .val (.int (0 : Int32)), .val (.int (3 : Int32)), .val (.int v7), .val (.int v13), .val (.int (128 : Int32)), .val (.int (191 : Int32)), .val (.int (2 : Int32)), .val (.int v59_1)] [(.int v59_1)])) _
            refine XS.iload X9.here hx rfl (hb hby own_d1_63) rfl ?_
            exact k
          by_cases hc65_2 : v59_1 < (128 : Int32)
          · obtain ⟨fs, hr, hrun, hended, hW, hsame⟩ := X9.leave (v := some (.int (-1 : Int32))) (fun h => by rw [Bd.returns] at h; cases h)
            have ev25 : (own_cs 3 (z0 &&& (255 : Int32)) (z1 &&& (255 : Int32)) (z2 &&& (255 : Int32)) (z3 &&& (255 : Int32))) = (-1 : Int32) := by
              have hq := hv13
              simp only [own_cs, own_g2, own_g3, own_g4, ← hv7, ← hv13, ← hv20, ← hv27, ← hv59, ← hv59_1]
              simp [hc36, hc65, hc72, hc36_2, hc65_2]
            refine ⟨_, _, pre24 _ ?_, hrun, hended, _, _, rfl, ?_, ⟨_, rfl⟩, hW, hsame.mono (by decide) (by decide)⟩
            · show Steps p.tables e below (T9.setTop (mkF m 65 #[.val (.ref xarr), .val (.int (0 : Int32)), .val (.int (3 : Int32)), .val (.int v7), .val (.int v13), .val (.int (128 : Int32)), .val (.int (191 : Int32)), .val (.int (2 : Int32)), .val (.int v59_1)] [(.int (128 : Int32)), (.int v59_1)])) _
              refine XS.icmpYes X9.here hx rfl (pc0 := 65) (pc' := 75) rfl (hb hby own_d1_65) rfl (tlt hc65_2).1 (by decide) (by decide) ?_
              show Steps p.tables e below (T9.setTop (mkF m 75 #[.val (.ref xarr), .val (.int (0 : Int32)), .val (.int (3 : Int32)), .val (.int v7), .val (.int v13), .val (.int (128 : Int32)), .val (.int (191 : Int32)), .val (.int (2 : Int32)), .val (.int v59_1)] [])) _
              refine XS.iconst X9.here hx rfl (hb hby own_d1_75) ?_
              show Steps p.tables e below (T9.setTop (mkF m 76 #[.val (.ref xarr), .val (.int (0 : Int32)), .val (.int (3 : Int32)), .val (.int v7), .val (.int v13), .val (.int (128 : Int32)), .val (.int (191 : Int32)), .val (.int (2 : Int32)), .val (.int v59_1)] [(.int (-1 : Int32))])) _
              exact retI X9 hx Bd.returns (hb hby own_d1_76) hr
            · show own_Q1_0_3 Z xarr xk z0 z1 z2 z3 z4 wS cS wL cL wH cH h0 n0 _ T9.heap _
              rw [e9]
              exact ⟨(by rw [ev25]), N0, rfl⟩
          · have pre26 : ∀ t, Steps p.tables e below (T9.setTop (mkF m 72 #[.val (.ref xarr), .val (.int (0 : Int32)), .val (.int (3 : Int32)), .val (.int v7), .val (.int v13), .val (.int (128 : Int32)), .val (.int (191 : Int32)), .val (.int (2 : Int32)), .val (.int v59_1)] [(.int (191 : Int32)), (.int v59_1)])) t → Steps p.tables e below (s₁.setTop (entryFrame m #[(.ref xarr), (.int (0 : Int32)), (.int (3 : Int32))] 9)) t := by
              intro t k
              refine pre24 _ ?_
              show Steps p.tables e below (T9.setTop (mkF m 65 #[.val (.ref xarr), .val (.int (0 : Int32)), .val (.int (3 : Int32)), .val (.int v7), .val (.int v13), .val (.int (128 : Int32)), .val (.int (191 : Int32)), .val (.int (2 : Int32)), .val (.int v59_1)] [(.int (128 : Int32)), (.int v59_1)])) _
              refine XS.icmpNo X9.here hx rfl (hb hby own_d1_65) rfl (flt hc65_2).1 ?_
              show Steps p.tables e below (T9.setTop (mkF m 68 #[.val (.ref xarr), .val (.int (0 : Int32)), .val (.int (3 : Int32)), .val (.int v7), .val (.int v13), .val (.int (128 : Int32)), .val (.int (191 : Int32)), .val (.int (2 : Int32)), .val (.int v59_1)] [])) _
              refine XS.iload X9.here hx rfl (hb hby own_d1_68) rfl ?_
              show Steps p.tables e below (T9.setTop (mkF m 70 #[.val (.ref xarr), .val (.int (0 : Int32)), .val (.int (3 : Int32)), .val (.int v7), .val (.int v13), .val (.int (128 : Int32)), .val (.int (191 : Int32)), .val (.int (2 : Int32)), .val (.int v59_1)] [(.int v59_1)])) _
              refine XS.iload X9.here hx rfl (hb hby own_d1_70) rfl ?_
              exact k
            by_cases hc72_2 : (191 : Int32) < v59_1
            · obtain ⟨fs, hr, hrun, hended, hW, hsame⟩ := X9.leave (v := some (.int (-1 : Int32))) (fun h => by rw [Bd.returns] at h; cases h)
              have ev27 : (own_cs 3 (z0 &&& (255 : Int32)) (z1 &&& (255 : Int32)) (z2 &&& (255 : Int32)) (z3 &&& (255 : Int32))) = (-1 : Int32) := by
                have hq := hv13
                simp only [own_cs, own_g2, own_g3, own_g4, ← hv7, ← hv13, ← hv20, ← hv27, ← hv59, ← hv59_1]
                simp [hc36, hc65, hc72, hc36_2, hc65_2, hc72_2]
              refine ⟨_, _, pre26 _ ?_, hrun, hended, _, _, rfl, ?_, ⟨_, rfl⟩, hW, hsame.mono (by decide) (by decide)⟩
              · show Steps p.tables e below (T9.setTop (mkF m 72 #[.val (.ref xarr), .val (.int (0 : Int32)), .val (.int (3 : Int32)), .val (.int v7), .val (.int v13), .val (.int (128 : Int32)), .val (.int (191 : Int32)), .val (.int (2 : Int32)), .val (.int v59_1)] [(.int (191 : Int32)), (.int v59_1)])) _
                refine XS.icmpNo X9.here hx rfl (hb hby own_d1_72) rfl (tlt hc72_2).2.2.2 ?_
                show Steps p.tables e below (T9.setTop (mkF m 75 #[.val (.ref xarr), .val (.int (0 : Int32)), .val (.int (3 : Int32)), .val (.int v7), .val (.int v13), .val (.int (128 : Int32)), .val (.int (191 : Int32)), .val (.int (2 : Int32)), .val (.int v59_1)] [])) _
                refine XS.iconst X9.here hx rfl (hb hby own_d1_75) ?_
                show Steps p.tables e below (T9.setTop (mkF m 76 #[.val (.ref xarr), .val (.int (0 : Int32)), .val (.int (3 : Int32)), .val (.int v7), .val (.int v13), .val (.int (128 : Int32)), .val (.int (191 : Int32)), .val (.int (2 : Int32)), .val (.int v59_1)] [(.int (-1 : Int32))])) _
                exact retI X9 hx Bd.returns (hb hby own_d1_76) hr
              · show own_Q1_0_3 Z xarr xk z0 z1 z2 z3 z4 wS cS wL cL wH cH h0 n0 _ T9.heap _
                rw [e9]
                exact ⟨(by rw [ev27]), N0, rfl⟩
            · have pre28 : ∀ t, Steps p.tables e below (T9.setTop (mkF m 36 #[.val (.ref xarr), .val (.int (0 : Int32)), .val (.int (3 : Int32)), .val (.int v7), .val (.int v13), .val (.int (128 : Int32)), .val (.int (191 : Int32)), .val (.int (3 : Int32)), .val (.int v59_1)] [(.int v13), (.int (3 : Int32))])) t → Steps p.tables e below (s₁.setTop (entryFrame m #[(.ref xarr), (.int (0 : Int32)), (.int (3 : Int32))] 9)) t := by
                intro t k
                refine pre26 _ ?_
                show Steps p.tables e below (T9.setTop (mkF m 72 #[.val (.ref xarr), .val (.int (0 : Int32)), .val (.int (3 : Int32)), .val (.int v7), .val (.int v13), .val (.int (128 : Int32)), .val (.int (191 : Int32)), .val (.int (2 : Int32)), .val (.int v59_1)] [(.int (191 : Int32)), (.int v59_1)])) _
                refine XS.icmpYes X9.here hx rfl (pc0 := 72) (pc' := 77) rfl (hb hby own_d1_72) rfl (flt hc72_2).2.2.2 (by decide) (by decide) ?_
                show Steps p.tables e below (T9.setTop (mkF m 77 #[.val (.ref xarr), .val (.int (0 : Int32)), .val (.int (3 : Int32)), .val (.int v7), .val (.int v13), .val (.int (128 : Int32)), .val (.int (191 : Int32)), .val (.int (2 : Int32)), .val (.int v59_1)] [])) _
                refine XS.sipush X9.here hx rfl (hb hby own_d1_77) ?_
                show Steps p.tables e below (T9.setTop (mkF m 80 #[.val (.ref xarr), .val (.int (0 : Int32)), .val (.int (3 : Int32)), .val (.int v7), .val (.int v13), .val (.int (128 : Int32)), .val (.int (191 : Int32)), .val (.int (2 : Int32)), .val (.int v59_1)] [(.int (128 : Int32))])) _
                refine XS.istore X9.here hx rfl (hb hby own_d1_80) rfl (l' := #[.val (.ref xarr), .val (.int (0 : Int32)), .val (.int (3 : Int32)), .val (.int v7), .val (.int v13), .val (.int (128 : Int32)), .val (.int (191 : Int32)), .val (.int (2 : Int32)), .val (.int v59_1)]) rfl ?_
                show Steps p.tables e below (T9.setTop (mkF m 82 #[.val (.ref xarr), .val (.int (0 : Int32)), .val (.int (3 : Int32)), .val (.int v7), .val (.int v13), .val (.int (128 : Int32)), .val (.int (191 : Int32)), .val (.int (2 : Int32)), .val (.int v59_1)] [])) _
                refine XS.sipush X9.here hx rfl (hb hby own_d1_82) ?_
                show Steps p.tables e below (T9.setTop (mkF m 85 #[.val (.ref xarr), .val (.int (0 : Int32)), .val (.int (3 : Int32)), .val (.int v7), .val (.int v13), .val (.int (128 : Int32)), .val (.int (191 : Int32)), .val (.int (2 : Int32)), .val (.int v59_1)] [(.int (191 : Int32))])) _
                refine XS.istore X9.here hx rfl (hb hby own_d1_85) rfl (l' := #[.val (.ref xarr), .val (.int (0 : Int32)), .val (.int (3 : Int32)), .val (.int v7), .val (.int v13), .val (.int (128 : Int32)), .val (.int (191 : Int32)), .val (.int (2 : Int32)), .val (.int v59_1)]) rfl ?_
                show Steps p.tables e below (T9.setTop (mkF m 87 #[.val (.ref xarr), .val (.int (0 : Int32)), .val (.int (3 : Int32)), .val (.int v7), .val (.int v13), .val (.int (128 : Int32)), .val (.int (191 : Int32)), .val (.int (2 : Int32)), .val (.int v59_1)] [])) _
                refine XS.iinc X9.here hx rfl (hb hby own_d1_87) rfl (l' := #[.val (.ref xarr), .val (.int (0 : Int32)), .val (.int (3 : Int32)), .val (.int v7), .val (.int v13), .val (.int (128 : Int32)), .val (.int (191 : Int32)), .val (.int (3 : Int32)), .val (.int v59_1)]) rfl ?_
                show Steps p.tables e below (T9.setTop (mkF m 90 #[.val (.ref xarr), .val (.int (0 : Int32)), .val (.int (3 : Int32)), .val (.int v7), .val (.int v13), .val (.int (128 : Int32)), .val (.int (191 : Int32)), .val (.int (3 : Int32)), .val (.int v59_1)] [])) _
                refine XS.goto X9.here hx rfl (pc0 := 90) (pc' := 32) rfl (hb hby own_d1_90) (by decide) (by decide) ?_
                show Steps p.tables e below (T9.setTop (mkF m 32 #[.val (.ref xarr), .val (.int (0 : Int32)), .val (.int (3 : Int32)), .val (.int v7), .val (.int v13), .val (.int (128 : Int32)), .val (.int (191 : Int32)), .val (.int (3 : Int32)), .val (.int v59_1)] [])) _
                refine XS.iload X9.here hx rfl (hb hby own_d1_32) rfl ?_
                show Steps p.tables e below (T9.setTop (mkF m 34 #[.val (.ref xarr), .val (.int (0 : Int32)), .val (.int (3 : Int32)), .val (.int v7), .val (.int v13), .val (.int (128 : Int32)), .val (.int (191 : Int32)), .val (.int (3 : Int32)), .val (.int v59_1)] [(.int (3 : Int32))])) _
                refine XS.iload X9.here hx rfl (hb hby own_d1_34) rfl ?_
                exact k
              by_cases hc36_3 : (3 : Int32) < v13
              · obtain ⟨fs, hr, hrun, hended, hW, hsame⟩ := X9.leave (v := some (.int (0 : Int32))) (fun h => by rw [Bd.returns] at h; cases h)
                have ev29 : (own_cs 3 (z0 &&& (255 : Int32)) (z1 &&& (255 : Int32)) (z2 &&& (255 : Int32)) (z3 &&& (255 : Int32))) = (0 : Int32) := by
                  have hq := hv13
                  simp only [own_cs, own_g2, own_g3, own_g4, ← hv7, ← hv13, ← hv20, ← hv27, ← hv59, ← hv59_1]
                  simp [hc36, hc65, hc72, hc36_2, hc65_2, hc72_2, hc36_3]
                refine ⟨_, _, pre28 _ ?_, hrun, hended, _, _, rfl, ?_, ⟨_, rfl⟩, hW, hsame.mono (by decide) (by decide)⟩
                · show Steps p.tables e below (T9.setTop (mkF m 36 #[.val (.ref xarr), .val (.int (0 : Int32)), .val (.int (3 : Int32)), .val (.int v7), .val (.int v13), .val (.int (128 : Int32)), .val (.int (191 : Int32)), .val (.int (3 : Int32)), .val (.int v59_1)] [(.int v13), (.int (3 : Int32))])) _
                  refine XS.icmpNo X9.here hx rfl (hb hby own_d1_36) rfl (tlt hc36_3).2.1 ?_
                  show Steps p.tables e below (T9.setTop (mkF m 39 #[.val (.ref xarr), .val (.int (0 : Int32)), .val (.int (3 : Int32)), .val (.int v7), .val (.int v13), .val (.int (128 : Int32)), .val (.int (191 : Int32)), .val (.int (3 : Int32)), .val (.int v59_1)] [])) _
                  refine XS.iloadN X9.here hx rfl (hb hby own_d1_39) rfl ?_
                  show Steps p.tables e below (T9.setTop (mkF m 40 #[.val (.ref xarr), .val (.int (0 : Int32)), .val (.int (3 : Int32)), .val (.int v7), .val (.int v13), .val (.int (128 : Int32)), .val (.int (191 : Int32)), .val (.int (3 : Int32)), .val (.int v59_1)] [(.int (0 : Int32))])) _
                  refine XS.iload X9.here hx rfl (hb hby own_d1_40) rfl ?_
                  show Steps p.tables e below (T9.setTop (mkF m 42 #[.val (.ref xarr), .val (.int (0 : Int32)), .val (.int (3 : Int32)), .val (.int v7), .val (.int v13), .val (.int (128 : Int32)), .val (.int (191 : Int32)), .val (.int (3 : Int32)), .val (.int v59_1)] [(.int (3 : Int32)), (.int (0 : Int32))])) _
                  refine XS.iadd X9.here hx rfl (hb hby own_d1_42) rfl ?_
                  show Steps p.tables e below (T9.setTop (mkF m 43 #[.val (.ref xarr), .val (.int (0 : Int32)), .val (.int (3 : Int32)), .val (.int v7), .val (.int v13), .val (.int (128 : Int32)), .val (.int (191 : Int32)), .val (.int (3 : Int32)), .val (.int v59_1)] [(.int (3 : Int32))])) _
                  refine XS.iloadN X9.here hx rfl (hb hby own_d1_43) rfl ?_
                  show Steps p.tables e below (T9.setTop (mkF m 44 #[.val (.ref xarr), .val (.int (0 : Int32)), .val (.int (3 : Int32)), .val (.int v7), .val (.int v13), .val (.int (128 : Int32)), .val (.int (191 : Int32)), .val (.int (3 : Int32)), .val (.int v59_1)] [(.int (3 : Int32)), (.int (3 : Int32))])) _
                  refine XS.icmpNo X9.here hx rfl (hb hby own_d1_44) rfl (teq rfl).2 ?_
                  show Steps p.tables e below (T9.setTop (mkF m 47 #[.val (.ref xarr), .val (.int (0 : Int32)), .val (.int (3 : Int32)), .val (.int v7), .val (.int v13), .val (.int (128 : Int32)), .val (.int (191 : Int32)), .val (.int (3 : Int32)), .val (.int v59_1)] [])) _
                  refine XS.iconst X9.here hx rfl (hb hby own_d1_47) ?_
                  show Steps p.tables e below (T9.setTop (mkF m 48 #[.val (.ref xarr), .val (.int (0 : Int32)), .val (.int (3 : Int32)), .val (.int v7), .val (.int v13), .val (.int (128 : Int32)), .val (.int (191 : Int32)), .val (.int (3 : Int32)), .val (.int v59_1)] [(.int (0 : Int32))])) _
                  exact retI X9 hx Bd.returns (hb hby own_d1_48) hr
                · show own_Q1_0_3 Z xarr xk z0 z1 z2 z3 z4 wS cS wL cL wH cH h0 n0 _ T9.heap _
                  rw [e9]
                  exact ⟨(by rw [ev29]), N0, rfl⟩
              · obtain ⟨fs, hr, hrun, hended, hW, hsame⟩ := X9.leave (v := some (.int v13)) (fun h => by rw [Bd.returns] at h; cases h)
                have ev30 : (own_cs 3 (z0 &&& (255 : Int32)) (z1 &&& (255 : Int32)) (z2 &&& (255 : Int32)) (z3 &&& (255 : Int32))) = v13 := by
                  have hq := hv13
                  simp only [own_cs, own_g2, own_g3, own_g4, ← hv7, ← hv13, ← hv20, ← hv27, ← hv59, ← hv59_1]
                  simp [hc36, hc65, hc72, hc36_2, hc65_2, hc72_2, hc36_3]
                refine ⟨_, _, pre28 _ ?_, hrun, hended, _, _, rfl, ?_, ⟨_, rfl⟩, hW, hsame.mono (by decide) (by decide)⟩
                · show Steps p.tables e below (T9.setTop (mkF m 36 #[.val (.ref xarr), .val (.int (0 : Int32)), .val (.int (3 : Int32)), .val (.int v7), .val (.int v13), .val (.int (128 : Int32)), .val (.int (191 : Int32)), .val (.int (3 : Int32)), .val (.int v59_1)] [(.int v13), (.int (3 : Int32))])) _
                  refine XS.icmpYes X9.here hx rfl (pc0 := 36) (pc' := 93) rfl (hb hby own_d1_36) rfl (flt hc36_3).2.1 (by decide) (by decide) ?_
                  show Steps p.tables e below (T9.setTop (mkF m 93 #[.val (.ref xarr), .val (.int (0 : Int32)), .val (.int (3 : Int32)), .val (.int v7), .val (.int v13), .val (.int (128 : Int32)), .val (.int (191 : Int32)), .val (.int (3 : Int32)), .val (.int v59_1)] [])) _
                  refine XS.iload X9.here hx rfl (hb hby own_d1_93) rfl ?_
                  show Steps p.tables e below (T9.setTop (mkF m 95 #[.val (.ref xarr), .val (.int (0 : Int32)), .val (.int (3 : Int32)), .val (.int v7), .val (.int v13), .val (.int (128 : Int32)), .val (.int (191 : Int32)), .val (.int (3 : Int32)), .val (.int v59_1)] [(.int v13)])) _
                  exact retI X9 hx Bd.returns (hb hby own_d1_95) hr
                · show own_Q1_0_3 Z xarr xk z0 z1 z2 z3 z4 wS cS wL cL wH cH h0 n0 _ T9.heap _
                  rw [e9]
                  exact ⟨(by rw [ev30]), N0, rfl⟩
        · obtain ⟨fs, hr, hrun, hended, hW, hsame⟩ := X9.leave (v := some (.int v13)) (fun h => by rw [Bd.returns] at h; cases h)
          have ev31 : (own_cs 3 (z0 &&& (255 : Int32)) (z1 &&& (255 : Int32)) (z2 &&& (255 : Int32)) (z3 &&& (255 : Int32))) = v13 := by
            have hq := hv13
            simp only [own_cs, own_g2, own_g3, own_g4, ← hv7, ← hv13, ← hv20, ← hv27, ← hv59]
            simp [hc36, hc65, hc72, hc36_2]
          refine ⟨_, _, pre20 _ ?_, hrun, hended, _, _, rfl, ?_, ⟨_, rfl⟩, hW, hsame.mono (by decide) (by decide)⟩
          · show Steps p.tables e below (T9.setTop (mkF m 36 #[.val (.ref xarr), .val (.int (0 : Int32)), .val (.int (3 : Int32)), .val (.int v7), .val (.int v13), .val (.int (128 : Int32)), .val (.int (191 : Int32)), .val (.int (2 : Int32)), .val (.int v59)] [(.int v13), (.int (2 : Int32))])) _
            refine XS.icmpYes X9.here hx rfl (pc0 := 36) (pc' := 93) rfl (hb hby own_d1_36) rfl (flt hc36_2).2.1 (by decide) (by decide) ?_
            show Steps p.tables e below (T9.setTop (mkF m 93 #[.val (.ref xarr), .val (.int (0 : Int32)), .val (.int (3 : Int32)), .val (.int v7), .val (.int v13), .val (.int (128 : Int32)), .val (.int (191 : Int32)), .val (.int (2 : Int32)), .val (.int v59)] [])) _
            refine XS.iload X9.here hx rfl (hb hby own_d1_93) rfl ?_
            show Steps p.tables e below (T9.setTop (mkF m 95 #[.val (.ref xarr), .val (.int (0 : Int32)), .val (.int (3 : Int32)), .val (.int v7), .val (.int v13), .val (.int (128 : Int32)), .val (.int (191 : Int32)), .val (.int (2 : Int32)), .val (.int v59)] [(.int v13)])) _
            exact retI X9 hx Bd.returns (hb hby own_d1_95) hr
          · show own_Q1_0_3 Z xarr xk z0 z1 z2 z3 z4 wS cS wL cL wH cH h0 n0 _ T9.heap _
            rw [e9]
            exact ⟨(by rw [ev31]), N0, rfl⟩
  · obtain ⟨fs, hr, hrun, hended, hW, hsame⟩ := X9.leave (v := some (.int v13)) (fun h => by rw [Bd.returns] at h; cases h)
    have ev32 : (own_cs 3 (z0 &&& (255 : Int32)) (z1 &&& (255 : Int32)) (z2 &&& (255 : Int32)) (z3 &&& (255 : Int32))) = v13 := by
      have hq := hv13
      simp only [own_cs, own_g2, own_g3, own_g4, ← hv7, ← hv13, ← hv20, ← hv27]
      simp [hc36]
    refine ⟨_, _, pre12 _ ?_, hrun, hended, _, _, rfl, ?_, ⟨_, rfl⟩, hW, hsame.mono (by decide) (by decide)⟩
    · show Steps p.tables e below (T9.setTop (mkF m 36 #[.val (.ref xarr), .val (.int (0 : Int32)), .val (.int (3 : Int32)), .val (.int v7), .val (.int v13), .val (.int v20), .val (.int v27), .val (.int (1 : Int32)), .unset] [(.int v13), (.int (1 : Int32))])) _
      refine XS.icmpYes X9.here hx rfl (pc0 := 36) (pc' := 93) rfl (hb hby own_d1_36) rfl (flt hc36).2.1 (by decide) (by decide) ?_
      show Steps p.tables e below (T9.setTop (mkF m 93 #[.val (.ref xarr), .val (.int (0 : Int32)), .val (.int (3 : Int32)), .val (.int v7), .val (.int v13), .val (.int v20), .val (.int v27), .val (.int (1 : Int32)), .unset] [])) _
      refine XS.iload X9.here hx rfl (hb hby own_d1_93) rfl ?_
      show Steps p.tables e below (T9.setTop (mkF m 95 #[.val (.ref xarr), .val (.int (0 : Int32)), .val (.int (3 : Int32)), .val (.int v7), .val (.int v13), .val (.int v20), .val (.int v27), .val (.int (1 : Int32)), .unset] [(.int v13)])) _
      exact retI X9 hx Bd.returns (hb hby own_d1_95) hr
    · show own_Q1_0_3 Z xarr xk z0 z1 z2 z3 z4 wS cS wL cL wH cH h0 n0 _ T9.heap _
      rw [e9]
      exact ⟨(by rw [ev32]), N0, rfl⟩
def own_Q1_0_4 (Z : State) (xarr : Addr) (xk : ClassId) (z0 : Int32) (z1 : Int32) (z2 : Int32) (z3 : Int32) (z4 : Int32) (wS : Addr) (cS : Cell) (wL : Addr) (cL : Cell) (wH : Addr) (cH : Cell) (h0 : Heap) (n0 : Nat) (v : Option Value) (h : Heap) (L : List Loc) : Prop := v = some (.int (own_cs 4 (z0 &&& (255 : Int32)) (z1 &&& (255 : Int32)) (z2 &&& (255 : Int32)) (z3 &&& (255 : Int32)))) ∧ Fr n0 L ∧ h = h0
theorem own_ef1_0_4 (m : MethodId) (xarr : Addr) : entryFrame m #[(.ref xarr), (.int (0 : Int32)), (.int (4 : Int32))] 9 = mkF m 0 #[.val (.ref xarr), .val (.int (0 : Int32)), .val (.int (4 : Int32)), .unset, .unset, .unset, .unset, .unset, .unset] [] := by first | (simp [entryFrame, mkF, argsToLocals, Value.category]; done) | rfl
set_option maxRecDepth 65536 in
set_option maxHeartbeats 40000000 in
theorem own_rm1_0_4 (l : Launch) (Z : State) (a0 : Array Value) (hw : ∀ d ∈ tables_1, d.before a0 Z = true) (ws : List Jvm.Cond) (xarr : Addr) (xk : ClassId) (z0 : Int32) (z1 : Int32) (z2 : Int32) (z3 : Int32) (z4 : Int32) (wS : Addr) (cS : Cell) (wL : Addr) (cL : Cell) (wH : Addr) (cH : Cell) (h0 : Heap) (n0 : Nat) (Z0 : n0 ≤ h0.size) (A_xarr : Arv Z h0 xarr xk .byte (5 : Int32) [(.int z0), (.int z1), (.int z2), (.int z3), (.int z4)] (.int (0 : Int32))) (S_SIZES : Sta Z h0 "com/example/stratafile/stratafile/io/Utf8" "SIZES" "[B" (.ref wS)) (R_wS : Arr Z h0 wS cS .byte) (S_SECOND_LOWEST : Sta Z h0 "com/example/stratafile/stratafile/io/Utf8" "SECOND_LOWEST" "[I" (.ref wL)) (R_wL : Arr Z h0 wL cL .int) (S_SECOND_HIGHEST : Sta Z h0 "com/example/stratafile/stratafile/io/Utf8" "SECOND_HIGHEST" "[I" (.ref wH)) (R_wH : Arr Z h0 wH cH .int) (szcS : cS.slots.size = (256 : Int32).toNatClampNeg) (tacS : ∀ j : Int32, ¬ (j < 0 ∨ cS.slots.size ≤ j.toNatClampNeg) → cS.slots[j.toNatClampNeg]? = some (.int (own_szT j))) (szcL : cL.slots.size = (256 : Int32).toNatClampNeg) (tacL : ∀ j : Int32, ¬ (j < 0 ∨ cL.slots.size ≤ j.toNatClampNeg) → cL.slots[j.toNatClampNeg]? = some (.int (own_loT j))) (szcH : cH.slots.size = (256 : Int32).toNatClampNeg) (tacH : ∀ j : Int32, ¬ (j < 0 ∨ cH.slots.size ≤ j.toNatClampNeg) → cH.slots[j.toNatClampNeg]? = some (.int (own_hiT j))) :
    MetFree l (⟨"com/example/stratafile/stratafile/io/Utf8", "characterSize", "([BII)I"⟩ : MethodName) (head1 (Jvm.Cond.code (⟨"com/example/stratafile/stratafile/io/Utf8", "characterSize", "([BII)I"⟩ : MethodName) prog_115_method_3_code 9 (some .int) :: ws) ({ frames := 0, cells := 0, slots := 0, locals := 0 } : Room)) (fun a U => a = #[(.ref xarr), (.int (0 : Int32)), (.int (4 : Int32))] ∧ Z.Warmed39 U.vm ∧ U.heap = h0) (fun _ _ _ _ _ => True) (fun _ U o U' => ∃ v L, o = .returned v ∧ own_Q1_0_4 Z xarr xk z0 z1 z2 z3 z4 wS cS wL cL wH cH h0 n0 v U'.heap L ∧ FrameEnd U o U' L ({ frames := 0, cells := 0, slots := 0, locals := 0 } : Room).cells ({ frames := 0, cells := 0, slots := 0, locals := 0 } : Room).slots) := by
  refine MetFree.of_bodySF (plainFor_of_name own_pn1) hisR ?_
  intro p e s m args below meth c s₁ Bd hml0 hP hK
  obtain ⟨rfl, hZ, hh⟩ := hP
  have hx := Bd.exec
  have hby := Bd.bytes
  have hml : c.maxLocals = 9 := hml0
  have hown : s.vm.findClass "com/example/stratafile/stratafile/io/Utf8" = some m.cls := findClass_of_methodNamed Bd.named
  have hnm := (name_of_methodNamed Bd.named Bd.method).1
  have X0 : Stand p l e ({ frames := 0, cells := 0, slots := 0, locals := 0 } : Room) s m #[(.ref xarr), (.int (0 : Int32)), (.int (4 : Int32))] below meth c s₁ [] 0 0 := Stand.of_body Bd
  have e0 : s₁.heap = h0 := by rw [← hh, Bd.state]; rfl
  have N0 := Fr.nil n0
  have pre0 : ∀ t, Steps p.tables e below (s₁.setTop (mkF m 0 #[.val (.ref xarr), .val (.int (0 : Int32)), .val (.int (4 : Int32)), .unset, .unset, .unset, .unset, .unset, .unset] [])) t → Steps p.tables e below (s₁.setTop (entryFrame m #[(.ref xarr), (.int (0 : Int32)), (.int (4 : Int32))] 9)) t := fun t k => castTop (own_ef1_0_4 m xarr) k
  obtain ⟨cl1, Ar1, q1, S1, M1, H1, G1⟩ := id A_xarr
  have in1 := inb_of S1 (j := (0 : Int32)) ⟨by decide, by decide⟩
  obtain ⟨v7, hv7⟩ : ∃ w : Int32, w = (z0 &&& (255 : Int32)) := ⟨_, rfl⟩
  have pre2 : ∀ t, Steps p.tables e below (s₁.setTop (mkF m 8 #[.val (.ref xarr), .val (.int (0 : Int32)), .val (.int (4 : Int32)), .val (.int v7), .unset, .unset, .unset, .unset, .unset] [])) t → Steps p.tables e below (s₁.setTop (entryFrame m #[(.ref xarr), (.int (0 : Int32)), (.int (4 : Int32))] 9)) t := by
    intro t k
    rw [hv7] at k
    refine pre0 _ ?_
    show Steps p.tables e below (s₁.setTop (mkF m 0 #[.val (.ref xarr), .val (.int (0 : Int32)), .val (.int (4 : Int32)), .unset, .unset, .unset, .unset, .unset, .unset] [])) _
    refine XS.aloadN X0.here hx rfl (hb hby own_d1_0) rfl rfl ?_
    show Steps p.tables e below (s₁.setTop (mkF m 1 #[.val (.ref xarr), .val (.int (0 : Int32)), .val (.int (4 : Int32)), .unset, .unset, .unset, .unset, .unset, .unset] [(.ref xarr)])) _
    refine XS.iloadN X0.here hx rfl (hb hby own_d1_1) rfl ?_
    show Steps p.tables e below (s₁.setTop (mkF m 2 #[.val (.ref xarr), .val (.int (0 : Int32)), .val (.int (4 : Int32)), .unset, .unset, .unset, .unset, .unset, .unset] [(.int (0 : Int32)), (.ref xarr)])) _
    refine X0.baloadBytes hx (j := (0 : Int32)) (v := (.int z0)) (by rw [e0]; exact Ar1.1) (State.isArrayOf_alike hZ.alike Ar1.2.1) Ar1.2.2 in1 (H1.at in1 rfl) (g := (mkF m 2 #[.val (.ref xarr), .val (.int (0 : Int32)), .val (.int (4 : Int32)), .unset, .unset, .unset, .unset, .unset, .unset] [(.int (0 : Int32)), (.ref xarr)])) rfl rfl (hb hby own_d1_2) _ ?_
    show Steps p.tables e below (s₁.setTop (mkF m 3 #[.val (.ref xarr), .val (.int (0 : Int32)), .val (.int (4 : Int32)), .unset, .unset, .unset, .unset, .unset, .unset] [(.int z0)])) _
    refine XS.sipush X0.here hx rfl (hb hby own_d1_3) ?_
    show Steps p.tables e below (s₁.setTop (mkF m 6 #[.val (.ref xarr), .val (.int (0 : Int32)), .val (.int (4 : Int32)), .unset, .unset, .unset, .unset, .unset, .unset] [(.int (255 : Int32)), (.int z0)])) _
    refine XS.iand X0.here hx rfl (hb hby own_d1_6) rfl ?_
    show Steps p.tables e below (s₁.setTop (mkF m 7 #[.val (.ref xarr), .val (.int (0 : Int32)), .val (.int (4 : Int32)), .unset, .unset, .unset, .unset, .unset, .unset] [(.int (z0 &&& (255 : Int32)))])) _
    refine XS.istoreN X0.here hx rfl (hb hby own_d1_7) rfl (l' := #[.val (.ref xarr), .val (.int (0 : Int32)), .val (.int (4 : Int32)), .val (.int (z0 &&& (255 : Int32))), .unset, .unset, .unset, .unset, .unset]) rfl ?_
    exact k
  have hv7r : ¬ v7 < 0 ∧ v7 < (256 : Int32) := by rw [hv7]; exact own_b255 _
  obtain ⟨T3, X3, e3, st3⟩ := getS2 X0 hx hZ hown (host := "") (Or.inl (hw _ (List.mem_of_getElem? (i := 5) rfl))) Via.refl e0 S_SIZES (g := (mkF m 8 #[.val (.ref xarr), .val (.int (0 : Int32)), .val (.int (4 : Int32)), .val (.int v7), .unset, .unset, .unset, .unset, .unset] [])) rfl (hb hby own_d1_8)
  have in4 : ¬ (v7 < 0 ∨ cS.slots.size ≤ (v7).toNatClampNeg) := inb_of szcS hv7r
  obtain ⟨v13, hv13⟩ : ∃ w : Int32, w = (own_szT v7) := ⟨_, rfl⟩
  have pre5 : ∀ t, Steps p.tables e below (T3.setTop (mkF m 15 #[.val (.ref xarr), .val (.int (0 : Int32)), .val (.int (4 : Int32)), .val (.int v7), .val (.int v13), .unset, .unset, .unset, .unset] [])) t → Steps p.tables e below (s₁.setTop (entryFrame m #[(.ref xarr), (.int (0 : Int32)), (.int (4 : Int32))] 9)) t := by
    intro t k
    rw [hv13] at k
    refine pre2 _ ?_
    show Steps p.tables e below (s₁.setTop (mkF m 8 #[.val (.ref xarr), .val (.int (0 : Int32)), .val (.int (4 : Int32)), .val (.int v7), .unset, .unset, .unset, .unset, .unset] [])) _
    refine st3 _ ?_
    show Steps p.tables e below (T3.setTop (mkF m 11 #[.val (.ref xarr), .val (.int (0 : Int32)), .val (.int (4 : Int32)), .val (.int v7), .unset, .unset, .unset, .unset, .unset] [(.ref wS)])) _
    refine XS.iloadN X3.here hx rfl (hb hby own_d1_11) rfl ?_
    show Steps p.tables e below (T3.setTop (mkF m 12 #[.val (.ref xarr), .val (.int (0 : Int32)), .val (.int (4 : Int32)), .val (.int v7), .unset, .unset, .unset, .unset, .unset] [(.int v7), (.ref wS)])) _
    refine X3.baloadBytes hx (j := v7) (v := (.int (own_szT v7))) (by rw [e3]; exact R_wS.1) (State.isArrayOf_alike hZ.alike R_wS.2.1) R_wS.2.2 in4 (tacS _ in4) (g := (mkF m 12 #[.val (.ref xarr), .val (.int (0 : Int32)), .val (.int (4 : Int32)), .val (.int v7), .unset, .unset, .unset, .unset, .unset] [(.int v7), (.ref wS)])) rfl rfl (hb hby own_d1_12) _ ?_
    show Steps p.tables e below (T3.setTop (mkF m 13 #[.val (.ref xarr), .val (.int (0 : Int32)), .val (.int (4 : Int32)), .val (.int v7), .unset, .unset, .unset, .unset, .unset] [(.int (own_szT v7))])) _
    refine XS.istore X3.here hx rfl (hb hby own_d1_13) rfl (l' := #[.val (.ref xarr), .val (.int (0 : Int32)), .val (.int (4 : Int32)), .val (.int v7), .val (.int (own_szT v7)), .unset, .unset, .unset, .unset]) rfl ?_
    exact k
  obtain ⟨T6, X6, e6, st6⟩ := getS2 X3 hx hZ hown (host := "") (Or.inl (hw _ (List.mem_of_getElem? (i := 7) rfl))) Via.refl e3 S_SECOND_LOWEST (g := (mkF m 15 #[.val (.ref xarr), .val (.int (0 : Int32)), .val (.int (4 : Int32)), .val (.int v7), .val (.int v13), .unset, .unset, .unset, .unset] [])) rfl (hb hby own_d1_15)
  have in7 : ¬ (v7 < 0 ∨ cL.slots.size ≤ (v7).toNatClampNeg) := inb_of szcL hv7r
  obtain ⟨v20, hv20⟩ : ∃ w : Int32, w = (own_loT v7) := ⟨_, rfl⟩
  have pre8 : ∀ t, Steps p.tables e below (T6.setTop (mkF m 22 #[.val (.ref xarr), .val (.int (0 : Int32)), .val (.int (4 : Int32)), .val (.int v7), .val (.int v13), .val (.int v20), .unset, .unset, .unset] [])) t → Steps p.tables e below (s₁.setTop (entryFrame m #[(.ref xarr), (.int (0 : Int32)), (.int (4 : Int32))] 9)) t := by
    intro t k
    rw [hv20] at k
    refine pre5 _ ?_
    show Steps p.tables e below (T3.setTop (mkF m 15 #[.val (.ref xarr), .val (.int (0 : Int32)), .val (.int (4 : Int32)), .val (.int v7), .val (.int v13), .unset, .unset, .unset, .unset] [])) _
    refine st6 _ ?_
    show Steps p.tables e below (T6.setTop (mkF m 18 #[.val (.ref xarr), .val (.int (0 : Int32)), .val (.int (4 : Int32)), .val (.int v7), .val (.int v13), .unset, .unset, .unset, .unset] [(.ref wL)])) _
    refine XS.iloadN X6.here hx rfl (hb hby own_d1_18) rfl ?_
    show Steps p.tables e below (T6.setTop (mkF m 19 #[.val (.ref xarr), .val (.int (0 : Int32)), .val (.int (4 : Int32)), .val (.int v7), .val (.int v13), .unset, .unset, .unset, .unset] [(.int v7), (.ref wL)])) _
    refine X6.iaload hx (j := v7) (v := (.int (own_loT v7))) (by rw [e6]; exact R_wL.1) (State.isArrayOf_alike hZ.alike R_wL.2.1) R_wL.2.2 in7 (tacL _ in7) (g := (mkF m 19 #[.val (.ref xarr), .val (.int (0 : Int32)), .val (.int (4 : Int32)), .val (.int v7), .val (.int v13), .unset, .unset, .unset, .unset] [(.int v7), (.ref wL)])) rfl rfl (hb hby own_d1_19) _ ?_
    show Steps p.tables e below (T6.setTop (mkF m 20 #[.val (.ref xarr), .val (.int (0 : Int32)), .val (.int (4 : Int32)), .val (.int v7), .val (.int v13), .unset, .unset, .unset, .unset] [(.int (own_loT v7))])) _
    refine XS.istore X6.here hx rfl (hb hby own_d1_20) rfl (l' := #[.val (.ref xarr), .val (.int (0 : Int32)), .val (.int (4 : Int32)), .val (.int v7), .val (.int v13), .val (.int (own_loT v7)), .unset, .unset, .unset]) rfl ?_
    exact k
  obtain ⟨T9, X9, e9, st9⟩ := getS2 X6 hx hZ hown (host := "") (Or.inl (hw _ (List.mem_of_getElem? (i := 9) rfl))) Via.refl e6 S_SECOND_HIGHEST (g := (mkF m 22 #[.val (.ref xarr), .val (.int (0 : Int32)), .val (.int (4 : Int32)), .val (.int v7), .val (.int v13), .val (.int v20), .unset, .unset, .unset] [])) rfl (hb hby own_d1_22)
  have in10 : ¬ (v7 < 0 ∨ cH.slots.size ≤ (v7).toNatClampNeg) := inb_of szcH hv7r
  obtain ⟨v27, hv27⟩ : ∃ w : Int32, w = (own_hiT v7) := ⟨_, rfl⟩
  have pre11 : ∀ t, Steps p.tables e below (T9.setTop (mkF m 29 #[.val (.ref xarr), .val (.int (0 : Int32)), .val (.int (4 : Int32)), .val (.int v7), .val (.int v13), .val (.int v20), .val (.int v27), .unset, .unset] [])) t → Steps p.tables e below (s₁.setTop (entryFrame m #[(.ref xarr), (.int (0 : Int32)), (.int (4 : Int32))] 9)) t := by
    intro t k
    rw [hv27] at k
    refine pre8 _ ?_
    show Steps p.tables e below (T6.setTop (mkF m 22 #[.val (.ref xarr), .val (.int (0 : Int32)), .val (.int (4 : Int32)), .val (.int v7), .val (.int v13), .val (.int v20), .unset, .unset, .unset] [])) _
    refine st9 _ ?_
    show Steps p.tables e below (T9.setTop (mkF m 25 #[.val (.ref xarr), .val (.int (0 : Int32)), .val (.int (4 : Int32)), .val (.int v7), .val (.int v13), .val (.int v20), .unset, .unset, .unset] [(.ref wH)])) _
    refine XS.iloadN X9.here hx rfl (hb hby own_d1_25) rfl ?_
    show Steps p.tables e below (T9.setTop (mkF m 26 #[.val (.ref xarr), .val (.int (0 : Int32)), .val (.int (4 : Int32)), .val (.int v7), .val (.int v13), .val (.int v20), .unset, .unset, .unset] [(.int v7), (.ref wH)])) _
    refine X9.iaload hx (j := v7) (v := (.int (own_hiT v7))) (by rw [e9]; exact R_wH.1) (State.isArrayOf_alike hZ.alike R_wH.2.1) R_wH.2.2 in10 (tacH _ in10) (g := (mkF m 26 #[.val (.ref xarr), .val (.int (0 : Int32)), .val (.int (4 : Int32)), .val (.int v7), .val (.int v13), .val (.int v20), .unset, .unset, .unset] [(.int v7), (.ref wH)])) rfl rfl (hb hby own_d1_26) _ ?_
    show Steps p.tables e below (T9.setTop (mkF m 27 #[.val (.ref xarr), .val (.int (0 : Int32)), .val (.int (4 : Int32)), .val (.int v7), .val (.int v13), .val (.int v20), .unset, .unset, .unset] [(.int (own_hiT v7))])) _
    refine XS.istore X9.here hx rfl (hb hby own_d1_27) rfl (l' := #[.val (.ref xarr), .val (.int (0 : Int32)), .val (.int (4 : Int32)), .val (.int v7), .val (.int v13), .val (.int v20), .val (.int (own_hiT v7)), .unset, .unset]) rfl ?_
    exact k
  have pre12 : ∀ t, Steps p.tables e below (T9.setTop (mkF m 36 #[.val (.ref xarr), .val (.int (0 : Int32)), .val (.int (4 : Int32)), .val (.int v7), .val (.int v13), .val (.int v20), .val (.int v27), .val (.int (1 : Int32)), .unset] [(.int v13), (.int (1 : Int32))])) t → Steps p.tables e below (s₁.setTop (entryFrame m #[(.ref xarr), (.int (0 : Int32)), (.int (4 : Int32))] 9)) t := by
    intro t k
    refine pre11 _ ?_
    show Steps p.tables e below (T9.setTop (mkF m 29 #[.val (.ref xarr), .val (.int (0 : Int32)), .val (.int (4 : Int32)), .val (.int v7), .val (.int v13), .val (.int v20), .val (.int v27), .unset, .unset] [])) _
    refine XS.iconst X9.here hx rfl (hb hby own_d1_29) ?_
    show Steps p.tables e below (T9.setTop (mkF m 30 #[.val (.ref xarr), .val (.int (0 : Int32)), .val (.int (4 : Int32)), .val (.int v7), .val (.int v13), .val (.int v20), .val (.int v27), .unset, .unset] [(.int (1 : Int32))])) _
    refine XS.istore X9.here hx rfl (hb hby own_d1_30) rfl (l' := #[.val (.ref xarr), .val (.int (0 : Int32)), .val (.int (4 : Int32)), .val (.int v7), .val (.int v13), .val (.int v20), .val (.int v27), .val (.int (1 : Int32)), .unset]) rfl ?_
    show Steps p.tables e below (T9.setTop (mkF m 32 #[.val (.ref xarr), .val (.int (0 : Int32)), .val (.int (4 : Int32)), .val (.int v7), .val (.int v13), .val (.int v20), .val (.int v27), .val (.int (1 : Int32)), .unset] [])) _
    refine XS.iload X9.here hx rfl (hb hby own_d1_32) rfl ?_
    show Steps p.tables e below (T9.setTop (mkF m 34 #[.val (.ref xarr), .val (.int (0 : Int32)), .val (.int (4 : Int32)), .val (.int v7), .val (.int v13), .val (.int v20), .val (.int v27), .val (.int (1 : Int32)), .unset] [(.int (1 : Int32))])) _
    refine XS.iload X9.here hx rfl (hb hby own_d1_34) rfl ?_
    exact k
  by_cases hc36 : (1 : Int32) < v13
  · have hd13 : ¬ ((1 : Int32) = (4 : Int32)) := (by decide)
    obtain ⟨cl14, Ar14, q14, S14, M14, H14, G14⟩ := id A_xarr
    have in14 := inb_of S14 (j := (1 : Int32)) ⟨by decide, by decide⟩
    obtain ⟨v59, hv59⟩ : ∃ w : Int32, w = (z1 &&& (255 : Int32)) := ⟨_, rfl⟩
    have pre15 : ∀ t, Steps p.tables e below (T9.setTop (mkF m 61 #[.val (.ref xarr), .val (.int (0 : Int32)), .val (.int (4 : Int32)), .val (.int v7), .val (.int v13), .val (.int v20), .val (.int v27), .val (.int (1 : Int32)), .val (.int v59)] [])) t → Steps p.tables e below (s₁.setTop (entryFrame m #[(.ref xarr), (.int (0 : Int32)), (.int (4 : Int32))] 9)) t := by
      intro t k
      rw [hv59] at k
      refine pre12 _ ?_
      show Steps p.tables e below (T9.setTop (mkF m 36 #[.val (.ref xarr), .val (.int (0 : Int32)), .val (.int (4 : Int32)), .val (.int v7), .val (.int v13), .val (.int v20), .val (.int v27), .val (.int (1 : Int32)), .unset] [(.int v13), (.int (1 : Int32))])) _
      refine XS.icmpNo X9.here hx rfl (hb hby own_d1_36) rfl (tlt hc36).2.1 ?_
      show Steps p.tables e below (T9.setTop (mkF m 39 #[.val (.ref xarr), .val (.int (0 : Int32)), .val (.int (4 : Int32)), .val (.int v7), .val (.int v13), .val (.int v20), .val (.int v27), .val (.int (1 : Int32)), .unset] [])) _
      refine XS.iloadN X9.here hx rfl (hb hby own_d1_39) rfl ?_
      show Steps p.tables e below (T9.setTop (mkF m 40 #[.val (.ref xarr), .val (.int (0 : Int32)), .val (.int (4 : Int32)), .val (.int v7), .val (.int v13), .val (.int v20), .val (.int v27), .val (.int (1 : Int32)), .unset] [(.int (0 : Int32))])) _
      refine XS.iload X9.here hx rfl (hb hby own_d1_40) rfl ?_
      show Steps p.tables e below (T9.setTop (mkF m 42 #[.val (.ref xarr), .val (.int (0 : Int32)), .val (.int (4 : Int32)), .val (.int v7), .val (.int v13), .val (.int v20), .val (.int v27), .val (.int (1 : Int32)), .unset] [(.int (1 : Int32)), (.int (0 : Int32))])) _
      refine XS.iadd X9.here hx rfl (hb hby own_d1_42) rfl ?_
      show Steps p.tables e below (T9.setTop (mkF m 43 #[.val (.ref xarr), .val (.int (0 : Int32)), .val (.int (4 : Int32)), .val (.int v7), .val (.int v13), .val (.int v20), .val (.int v27), .val (.int (1 : Int32)), .unset] [(.int (1 : Int32))])) _
      refine XS.iloadN X9.here hx rfl (hb hby own_d1_43) rfl ?_
      show Steps p.tables e below (T9.setTop (mkF m 44 #[.val (.ref xarr), .val (.int (0 : Int32)), .val (.int (4 : Int32)), .val (.int v7), .val (.int v13), .val (.int v20), .val (.int v27), .val (.int (1 : Int32)), .unset] [(.int (4 : Int32)), (.int (1 : Int32))])) _
      refine XS.icmpYes X9.here hx rfl (pc0 := 44) (pc' := 49) rfl (hb hby own_d1_44) rfl (feq hd13).2 (by decide) (by decide) ?_
      show Steps p.tables e below (T9.setTop (mkF m 49 #[.val (.ref xarr), .val (.int (0 : Int32)), .val (.int (4 : Int32)), .val (.int v7), .val (.int v13), .val (.int v20), .val (.int v27), .val (.int (1 : Int32)), .unset] [])) _
      refine XS.aloadN X9.here hx rfl (hb hby own_d1_49) rfl rfl ?_
      show Steps p.tables e below (T9.setTop (mkF m 50 #[.val (.ref xarr), .val (.int (0 : Int32)), .val (.int (4 : Int32)), .val (.int v7), .val (.int v13), .val (.int v20), .val (.int v27), .val (.int (1 : Int32)), .unset] [(.ref xarr)])) _
      refine XS.iloadN X9.here hx rfl (hb hby own_d1_50) rfl ?_
      show Steps p.tables e below (T9.setTop (mkF m 51 #[.val (.ref xarr), .val (.int (0 : Int32)), .val (.int (4 : Int32)), .val (.int v7), .val (.int v13), .val (.int v20), .val (.int v27), .val (.int (1 : Int32)), .unset] [(.int (0 : Int32)), (.ref xarr)])) _
      refine XS.iload X9.here hx rfl (hb hby own_d1_51) rfl ?_
      show Steps p.tables e below (T9.setTop (mkF m 53 #[.val (.ref xarr), .val (.int (0 : Int32)), .val (.int (4 : Int32)), .val (.int v7), .val (.int v13), .val (.int v20), .val (.int v27), .val (.int (1 : Int32)), .unset] [(.int (1 : Int32)), (.int (0 : Int32)), (.ref xarr)])) _
      refine XS.iadd X9.here hx rfl (hb hby own_d1_53) rfl ?_
      show Steps p.tables e below (T9.setTop (mkF m 54 #[.val (.ref xarr), .val (.int (0 : Int32)), .val (.int (4 : Int32)), .val (.int v7), .val (.int v13), .val (.int v20), .val (.int v27), .val (.int (1 : Int32)), .unset] [(.int (1 : Int32)), (.ref xarr)])) _
      refine X9.baloadBytes hx (j := (1 : Int32)) (v := (.int z1)) (by rw [e9]; exact Ar14.1) (State.isArrayOf_alike hZ.alike Ar14.2.1) Ar14.2.2 in14 (H14.at in14 rfl) (g := (mkF m 54 #[.val (.ref xarr), .val (.int (0 : Int32)), .val (.int (4 : Int32)), .val (.int v7), .val (.int v13), .val (.int v20), .val (.int v27), .val (.int (1 : Int32)), .unset] [(.int (1 : Int32)), (.ref xarr)])) rfl rfl (hb hby own_d1_54) _ ?_
      show Steps p.tables e below (T9.setTop (mkF m 55 #[.val (.ref xarr), .val (.int (0 : Int32)), .val (.int (4 : Int32)), .val (.int v7), .val (.int v13), .val (.int v20), .val (.int v27), .val (.int (1 : Int32)), .unset] [(.int z1)])) _
      refine XS.sipush X9.here hx rfl (hb hby own_d1_55) ?_
      show Steps p.tables e below (T9.setTop (mkF m 58 #[.val (.ref xarr), .val (.int (0 : Int32)), .val (.int (4 : Int32)), .val (.int v7), .val (.int v13), .val (.int v20), .val (.int v27), .val (.int (1 : Int32)), .unset] [(.int (255 : Int32)), (.int z1)])) _
      refine XS.iand X9.here hx rfl (hb hby own_d1_58) rfl ?_
      show Steps p.tables e below (T9.setTop (mkF m 59 #[.val (.ref xarr), .val (.int (0 : Int32)), .val (.int (4 : Int32)), .val (.int v7), .val (.int v13), .val (.int v20), .val (.int v27), .val (.int (1 : Int32)), .unset] [(.int (z1 &&& (255 : Int32)))])) _
      refine XS.istore X9.here hx rfl (hb hby own_d1_59) rfl (l' := #[.val (.ref xarr), .val (.int (0 : Int32)), .val (.int (4 : Int32)), .val (.int v7), .val (.int v13), .val (.int v20), .val (.int v27), .val (.int (1 : Int32)), .val (.int (z1 &&& (255 : Int32)))]) rfl ?_
      exact k
    have pre16 : ∀ t, Steps p.tables e below (T9.setTop (mkF m 65 #[.val (.ref xarr), .val (.int (0 : Int32)), .val (.int (4 : Int32)), .val (.int v7), .val (.int v13), .val (.int v20), .val (.int v27), .val (.int (1 : Int32)), .val (.int v59)] [(.int v20), (.int v59)])) t → Steps p.tables e below (s₁.setTop (entryFrame m #[(.ref xarr), (.int (0 : Int32)), (.int (4 : Int32))] 9)) t := by
      intro t k
      refine pre15 _ ?_
      show Steps p.tables e below (T9.setTop (mkF m 61 #[.val (.ref xarr), .val (.int (0 : Int32)), .val (.int (4 : Int32)), .val (.int v7), .val (.int v13), .val (.int v20), .val (.int v27), .val (.int (1 : Int32)), .val (.int v59)] [])) _
      refine XS.iload X9.here hx rfl (hb hby own_d1_61) rfl ?_
      show Steps p.tables e below (T9.setTop (mkF m 63 #[.val (.ref xarr), .val (.int (0 : Int32)), .val (.int (4 : Int32)), .val (.int v7), .val (.int v13), .val (.int v20), .val (.int v27), .val (.int (1 : Int32)), .val (.int v59)] [(.int v59)])) _
      refine XS.iload X9.here hx rfl (hb hby own_d1_63) rfl ?_
      exact k
    by_cases hc65 : v59 < v20
    · obtain ⟨fs, hr, hrun, hended, hW, hsame⟩ := X9.leave (v := some (.int (-1 : Int32))) (fun h => by rw [Bd.returns] at h; cases h)
      have ev17 : (own_cs 4 (z0 &&& (255 : Int32)) (z1 &&& (255 : Int32)) (z2 &&& (255 : Int32)) (z3 &&& (255 : Int32))) = (-1 : Int32) := by
        have hq := hv13
        simp only [own_cs, own_g2, own_g3, own_g4, ← hv7, ← hv13, ← hv20, ← hv27, ← hv59]
        simp [hc36, hc65]
      refine ⟨_, _, pre16 _ ?_, hrun, hended, _, _, rfl, ?_, ⟨_, rfl⟩, hW, hsame.mono (by decide) (by decide)⟩
      · show Steps p.tables e below (T9.setTop (mkF m 65 #[.val (.ref xarr), .val (.int (0 : Int32)), .val (.int (4 : Int32)), .val (.int v7), .val (.int v13), .val (.int v20), .val (.int v27), .val (.int (1 : Int32)), .val (.int v59)] [(.int v20), (.int v59)])) _
        refine XS.icmpYes X9.here hx rfl (pc0 := 65) (pc' := 75) rfl (hb hby own_d1_65) rfl (tlt hc65).1 (by decide) (by decide) ?_
        show Steps p.tables e below (T9.setTop (mkF m 75 #[.val (.ref xarr), .val (.int (0 : Int32)), .val (.int (4 : Int32)), .val (.int v7), .val (.int v13), .val (.int v20), .val (.int v27), .val (.int (1 : Int32)), .val (.int v59)] [])) _
        refine XS.iconst X9.here hx rfl (hb hby own_d1_75) ?_
        show Steps p.tables e below (T9.setTop (mkF m 76 #[.val (.ref xarr), .val (.int (0 : Int32)), .val (.int (4 : Int32)), .val (.int v7), .val (.int v13), .val (.int v20), .val (.int v27), .val (.int (1 : Int32)), .val (.int v59)] [(.int (-1 : Int32))])) _
        exact retI X9 hx Bd.returns (hb hby own_d1_76) hr
      · show own_Q1_0_4 Z xarr xk z0 z1 z2 z3 z4 wS cS wL cL wH cH h0 n0 _ T9.heap _
        rw [e9]
        exact ⟨(by rw [ev17]), N0, rfl⟩
    · have pre18 : ∀ t, Steps p.tables e below (T9.setTop (mkF m 72 #[.val (.ref xarr), .val (.int (0 : Int32)), .val (.int (4 : Int32)), .val (.int v7), .val (.int v13), .val (.int v20), .val (.int v27), .val (.int (1 : Int32)), .val (.int v59)] [(.int v27), (.int v59)])) t → Steps p.tables e below (s₁.setTop (entryFrame m #[(.ref xarr), (.int (0 : Int32)), (.int (4 : Int32))] 9)) t := by
        intro t k
        refine pre16 _ ?_
        show Steps p.tables e below (T9.setTop (mkF m 65 #[.val (.ref xarr), .val (.int (0 : Int32)), .val (.int (4 : Int32)), .val (.int v7), .val (.int v13), .val (.int v20), .val (.int v27), .val (.int (1 : Int32)), .val (.int v59)] [(.int v20), (.int v59)])) _
        refine XS.icmpNo X9.here hx rfl (hb hby own_d1_65) rfl (flt hc65).1 ?_
        show Steps p.tables e below (T9.setTop (mkF m 68 #[.val (.ref xarr), .val (.int (0 : Int32)), .val (.int (4 : Int32)), .val (.int v7), .val (.int v13), .val (.int v20), .val (.int v27), .val (.int (1 : Int32)), .val (.int v59)] [])) _
        refine XS.iload X9.here hx rfl (hb hby own_d1_68) rfl ?_
        show Steps p.tables e below (T9.setTop (mkF m 70 #[.val (.ref xarr), .val (.int (0 : Int32)), .val (.int (4 : Int32)), .val (.int v7), .val (.int v13), .val (.int v20), .val (.int v27), .val (.int (1 : Int32)), .val (.int v59)] [(.int v59)])) _
        refine XS.iload X9.here hx rfl (hb hby own_d1_70) rfl ?_
        exact k
      by_cases hc72 : v27 < v59
      · obtain ⟨fs, hr, hrun, hended, hW, hsame⟩ := X9.leave (v := some (.int (-1 : Int32))) (fun h => by rw [Bd.returns] at h; cases h)
        have ev19 : (own_cs 4 (z0 &&& (255 : Int32)) (z1 &&& (255 : Int32)) (z2 &&& (255 : Int32)) (z3 &&& (255 : Int32))) = (-1 : Int32) := by
          have hq := hv13
          simp only [own_cs, own_g2, own_g3, own_g4, ← hv7, ← hv13, ← hv20, ← hv27, ← hv59]
          simp [hc36, hc65, hc72]
        refine ⟨_, _, pre18 _ ?_, hrun, hended, _, _, rfl, ?_, ⟨_, rfl⟩, hW, hsame.mono (by decide) (by decide)⟩
        · show Steps p.tables e below (T9.setTop (mkF m 72 #[.val (.ref xarr), .val (.int (0 : Int32)), .val (.int (4 : Int32)), .val (.int v7), .val (.int v13), .val (.int v20), .val (.int v27), .val (.int (1 : Int32)), .val (.int v59)] [(.int v27), (.int v59)])) _
          refine XS.icmpNo X9.here hx rfl (hb hby own_d1_72) rfl (tlt hc72).2.2.2 ?_
          show Steps p.tables e below (T9.setTop (mkF m 75 #[.val (.ref xarr), .val (.int (0 : Int32)), .val (.int (4 : Int32)), .val (.int v7), .val (.int v13), .val (.int v20), .val (.int v27), .val (.int (1 : Int32)), .val (.int v59)] [])) _
          refine XS.iconst X9.here hx rfl (hb hby own_d1_75) ?_
          show Steps p.tables e below (T9.setTop (mkF m 76 #[.val (.ref xarr), .val (.int (0 : Int32)), .val (.int (4 : Int32)), .val (.int v7), .val (.int v13), .val (.int v20), .val (.int v27), .val (.int (1 : Int32)), .val (.int v59)] [(.int (-1 : Int32))])) _
          exact retI X9 hx Bd.returns (hb hby own_d1_76) hr
        · show own_Q1_0_4 Z xarr xk z0 z1 z2 z3 z4 wS cS wL cL wH cH h0 n0 _ T9.heap _
          rw [e9]
          exact ⟨(by rw [ev19]), N0, rfl⟩
      · have pre20 : ∀ t, Steps p.tables e below (T9.setTop (mkF m 36 #[.val (.ref xarr), .val (.int (0 : Int32)), .val (.int (4 : Int32)), .val (.int v7), .val (.int v13), .val (.int (128 : Int32)), .val (.int (191 : Int32)), .val (.int (2 : Int32)), .val (.int v59)] [(.int v13), (.int (2 : Int32))])) t → Steps p.tables e below (s₁.setTop (entryFrame m #[(.ref xarr), (.int (0 : Int32)), (.int (4 : Int32))] 9)) t := by
          intro t k
          refine pre18 _ ?_
          show Steps p.tables e below (T9.setTop (mkF m 72 #[.val (.ref xarr), .val (.int (0 : Int32)), .val (.int (4 : Int32)), .val (.int v7), .val (.int v13), .val (.int v20), .val (.int v27), .val (.int (1 : Int32)), .val (.int v59)] [(.int v27), (.int v59)])) _
          refine XS.icmpYes X9.here hx rfl (pc0 := 72) (pc' := 77) rfl (hb hby own_d1_72) rfl (flt hc72).2.2.2 (by decide) (by decide) ?_
          show Steps p.tables e below (T9.setTop (mkF m 77 #[.val (.ref xarr), .val (.int (0 : Int32)), .val (.int (4 : Int32)), .val (.int v7), .val (.int v13), .val (.int v20), .val (.int v27), .val (.int (1 : Int32)), .val (.int v59)] [])) _
          refine XS.sipush X9.here hx rfl (hb hby own_d1_77) ?_
          show Steps p.tables e below (T9.setTop (mkF m 80 #[.val (.ref xarr), .val (.int (0 : Int32)), .val (.int (4 : Int32)), .val (.int v7), .val (.int v13), .val (.int v20), .val (.int v27), .val (.int (1 : Int32)), .val (.int v59)] [(.int (128 : Int32))])) _
          refine XS.istore X9.here hx rfl (hb hby own_d1_80) rfl (l' := #[.val (.ref xarr), .val (.int (0 : Int32)), .val (.int (4 : Int32)), .val (.int v7), .val (.int v13), .val (.int (128 : Int32)), .val (.int v27), .val (.int (1 : Int32)), .val (.int v59)]) rfl ?_
          show Steps p.tables e below (T9.setTop (mkF m 82 #[.val (.ref xarr), .val (.int (0 : Int32)), .val (.int (4 : Int32)), .val (.int v7), .val (.int v13), .val (.int (128 : Int32)), .val (.int v27), .val (.int (1 : Int32)), .val (.int v59)] [])) _
          refine XS.sipush X9.here hx rfl (hb hby own_d1_82) ?_
          show Steps p.tables e below (T9.setTop (mkF m 85 #[.val (.ref xarr), .val (.int (0 : Int32)), .val (.int (4 : Int32)), .val (.int v7), .val (.int v13), .val (.int (128 : Int32)), .val (.int v27), .val (.int (1 : Int32)), .val (.int v59)] [(.int (191 : Int32))])) _
          refine XS.istore X9.here hx rfl (hb hby own_d1_85) rfl (l' := #[.val (.ref xarr), .val (.int (0 : Int32)), .val (.int (4 : Int32)), .val (.int v7), .val (.int v13), .val (.int (128 : Int32)), .val (.int (191 : Int32)), .val (.int (1 : Int32)), .val (.int v59)]) rfl ?_
          show Steps p.tables e below (T9.setTop (mkF m 87 #[.val (.ref xarr), .val (.int (0 : Int32)), .val (.int (4 : Int32)), .val (.int v7), .val (.int v13), .val (.int (128 : Int32)), .val (.int (191 : Int32)), .val (.int (1 : Int32)), .val (.int v59)] [])) _
          refine XS.iinc X9.here hx rfl (hb hby own_d1_87) rfl (l' := #[.val (.ref xarr), .val (.int (0 : Int32)), .val (.int (4 : Int32)), .val (.int v7), .val (.int v13), .val (.int (128 : Int32)), .val (.int (191 : Int32)), .val (.int (2 : Int32)), .val (.int v59)]) rfl ?_
          show Steps p.tables e below (T9.setTop (mkF m 90 #[.val (.ref xarr), .val (.int (0 : Int32)), .val (.int (4 : Int32)), .val (.int v7), .val (.int v13), .val (.int (128 : Int32)), .val (.int (191 : Int32)), .val (.int (2 : Int32)), .val (.int v59)] [])) _
          refine XS.goto X9.here hx rfl (pc0 := 90) (pc' := 32) rfl (hb hby own_d1_90) (by decide) (by decide) ?_
          show Steps p.tables e below (T9.setTop (mkF m 32 #[.val (.ref xarr), .val (.int (0 : Int32)), .val (.int (4 : Int32)), .val (.int v7), .val (.int v13), .val (.int (128 : Int32)), .val (.int (191 : Int32)), .val (.int (2 : Int32)), .val (.int v59)] [])) _
          refine XS.iload X9.here hx rfl (hb hby own_d1_32) rfl ?_
          show Steps p.tables e below (T9.setTop (mkF m 34 #[.val (.ref xarr), .val (.int (0 : Int32)), .val (.int (4 : Int32)), .val (.int v7), .val (.int v13), .val (.int (128 : Int32)), .val (.int (191 : Int32)), .val (.int (2 : Int32)), .val (.int v59)] [(.int (2 : Int32))])) _
          refine XS.iload X9.here hx rfl (hb hby own_d1_34) rfl ?_
          exact k
        by_cases hc36_2 : (2 : Int32) < v13
        · have hd21 : ¬ ((2 : Int32) = (4 : Int32)) := (by decide)
          obtain ⟨cl22, Ar22, q22, S22, M22, H22, G22⟩ := id A_xarr
          have in22 := inb_of S22 (j := (2 : Int32)) ⟨by decide, by decide⟩
          obtain ⟨v59_1, hv59_1⟩ : ∃ w : Int32, w = (z2 &&& (255 : Int32)) := ⟨_, rfl⟩
          have pre23 : ∀ t, Steps p.tables e below (T9.setTop (mkF m 61 #[.val (.ref xarr), .val (.int (0 : Int32)), .val (.int (4 : Int32)), .val (.int v7), .val (.int v13), .val (.int (128 : Int32)), .val (.int (191 : Int32)), .val (.int (2 : Int32)), .val (.int v59_1)] [])) t → Steps p.tables e below (s₁.setTop (entryFrame m #[(.ref xarr), (.int (0 : Int32)), (.int (4 : Int32))] 9)) t := by
            intro t k
            rw [hv59_1] at k
            refine pre20 _ ?_
            show Steps p.tables e below (T9.setTop (mkF m 36 #[.val (.ref xarr), .val (.int (0 : Int32)), .val (.int (4 : Int32)), .val (.int v7), .val (.int v13), .val (.int (128 : Int32)), .val (.int (191 : Int32)), .val (.int (2 : Int32)), .val (.int v59)] [(.int v13), (.int (2 : Int32))])) _
            refine XS.icmpNo X9.here hx rfl (hb hby own_d1_36) rfl (tlt hc36_2).2.1 ?_
            show Steps p.tables e below (T9.setTop (mkF m 39 #[.val (.ref xarr), .val (.int (0 : Int32)), .val (.int (4 : Int32)), .val (.int v7), .val (.int v13), .val (.int (128 : Int32)), .val (.int (191 : Int32)), .val (.int (2 : Int32)), .val (.int v59)] [])) _
            refine XS.iloadN X9.here hx rfl (hb hby own_d1_39) rfl ?_
            show Steps p.tables e below (T9.setTop (mkF m 40 #[.val (.ref xarr), .val (.int (0 : Int32)), .val (.int (4 : Int32)), .val (.int v7), .val (.int v13), .val (.int (128 : Int32)), .val (.int (191 : Int32)), .val (.int (2 : Int32)), .val (.int v59)] [(.int (0 : Int32))])) _
            refine XS.iload X9.here hx rfl (hb hby own_d1_40) rfl ?_
            show Steps p.tables e below (T9.setTop (mkF m 42 #[.val (.ref xarr), .val (.int (0 : Int32)), .val (.int (4 : Int32)), .val (.int v7), .val (.int v13), .val (.int (128 : Int32)), .val (.int (191 : Int32)), .val (.int (2 : Int32)), .val (.int v59)] [(.int (2 : Int32)), (.int (0 : Int32))])) _
            refine XS.iadd X9.here hx rfl (hb hby own_d1_42) rfl ?_
            show Steps p.tables e below (T9.setTop (mkF m 43 #[.val (.ref xarr), .val (.int (0 : Int32)), .val (.int (4 : Int32)), .val (.int v7), .val (.int v13), .val (.int (128 : Int32)), .val (.int (191 : Int32)), .val (.int (2 : Int32)), .val (.int v59)] [(.int (2 : Int32))])) _
            refine XS.iloadN X9.here hx rfl (hb hby own_d1_43) rfl ?_
            show Steps p.tables e below (T9.setTop (mkF m 44 #[.val (.ref xarr), .val (.int (0 : Int32)), .val (.int (4 : Int32)), .val (.int v7), .val (.int v13), .val (.int (128 : Int32)), .val (.int (191 : Int32)), .val (.int (2 : Int32)), .val (.int v59)] [(.int (4 : Int32)), (.int (2 : Int32))])) _
            refine XS.icmpYes X9.here hx rfl (pc0 := 44) (pc' := 49) rfl (hb hby own_d1_44) rfl (feq hd21).2 (by decide) (by decide) ?_
            show Steps p.tables e below (T9.setTop (mkF m 49 #[.val (.ref xarr), .val (.int (0 : Int32)), .val (.int (4 : Int32)), .val (.int v7), .val (.int v13), .val (.int (128 : Int32)), .val (.int (191 : Int32)), .val (.int (2 : Int32)), .val (.int v59)] [])) _
            refine XS.aloadN X9.here hx rfl (hb hby own_d1_49) rfl rfl ?_
            show Steps p.tables e below (T9.setTop (mkF m 50 #[.val (.ref xarr), .val (.int (0 : Int32)), .val (.int (4 : Int32)), .val (.int v7), .val (.int v13), .val (.int (128 : Int32)), .val (.int (191 : Int32)), .val (.int (2 : Int32)), .val (.int v59)] [(.ref xarr)])) _
            refine XS.iloadN X9.here hx rfl (hb hby own_d1_50) rfl ?_
            show Steps p.tables e below (T9.setTop (mkF m 51 #[.val (.ref xarr), .val (.int (0 : Int32)), .val (.int (4 : Int32)), .val (.int v7), .val (.int v13), .val (.int (128 : Int32)), .val (.int (191 : Int32)), .val (.int (2 : Int32)), .val (.int v59)] [(.int (0 : Int32)), (.ref xarr)])) _
            refine XS.iload X9.here hx rfl (hb hby own_d1_51) rfl ?_
            show Steps p.tables e below (T9.setTop (mkF m 53 #[.val (.ref xarr), .val (.int (0 : Int32)), .val (.int (4 : Int32)), .val (.int v7), .val (.int v13), .val (.int (128 : Int32)), .val (.int (191 : Int32)), .val (.int (2 : Int32)), .val (.int v59)] [(.int (2 : Int32)), (.int (0 : Int32)), (.ref xarr)])) _
            refine XS.iadd X9.here hx rfl (hb hby own_d1_53) rfl ?_
            show Steps p.tables e below (T9.setTop (mkF m 54 #[.val (.ref xarr), .val (.int (0 : Int32)), .val (.int (4 : Int32)), .val (.int v7), .val (.int v13), .val (.int (128 : Int32)), .val (.int (191 : Int32)), .val (.int (2 : Int32)), .val (.int v59)] [(.int (2 : Int32)), (.ref xarr)])) _
            refine X9.baloadBytes hx (j := (2 : Int32)) (v := (.int z2)) (by rw [e9]; exact Ar22.1) (State.isArrayOf_alike hZ.alike Ar22.2.1) Ar22.2.2 in22 (H22.at in22 rfl) (g := (mkF m 54 #[.val (.ref xarr), .val (.int (0 : Int32)), .val (.int (4 : Int32)), .val (.int v7), .val (.int v13), .val (.int (128 : Int32)), .val (.int (191 : Int32)), .val (.int (2 : Int32)), .val (.int v59)] [(.int (2 : Int32)), (.ref xarr)])) rfl rfl (hb hby own_d1_54) _ ?_
            show Steps p.tables e below (T9.setTop (mkF m 55 #[.val (.ref xarr), .val (.int (0 : Int32)), .val (.int (4 : Int32)), .val (.int v7), .val (.int v13), .val (.int (128 : Int32)), .val (.int (191 : Int32)), .val (.int (2 : Int32)), .val (.int v59)] [(.int z2)])) _
            refine XS.sipush X9.here hx rfl (hb hby own_d1_55) ?_
            show Steps p.tables e below (T9.setTop (mkF m 58 #[.val (.ref xarr), .val (.int (0 : Int32)), .val (.int (4 : Int32)), .val (.int v7), .val (.int v13), .val (.int (128 : Int32)), .val (.int (191 : Int32)), .val (.int (2 : Int32)), .val (.int v59)] [(.int (255 : Int32)), (.int z2)])) _
            refine XS.iand X9.here hx rfl (hb hby own_d1_58) rfl ?_
            show Steps p.tables e below (T9.setTop (mkF m 59 #[.val (.ref xarr), .val (.int (0 : Int32)), .val (.int (4 : Int32)), .val (.int v7), .val (.int v13), .val (.int (128 : Int32)), .val (.int (191 : Int32)), .val (.int (2 : Int32)), .val (.int v59)] [(.int (z2 &&& (255 : Int32)))])) _
            refine XS.istore X9.here hx rfl (hb hby own_d1_59) rfl (l' := #[.val (.ref xarr), .val (.int (0 : Int32)), .val (.int (4 : Int32)), .val (.int v7), .val (.int v13), .val (.int (128 : Int32)), .val (.int (191 : Int32)), .val (.int (2 : Int32)), .val (.int (z2 &&& (255 : Int32)))]) rfl ?_
            exact k
          have pre24 : ∀ t, Steps p.tables e below (T9.setTop (mkF m 65 #[.val (.ref xarr), .val (.int (0 : Int32)), .val (.int (4 : Int32)), .val (.int v7), .val (.int v13), .val (.int (128 : Int32)), .val (.int (191 : Int32)), .val (.int (2 : Int32)), .val (.int v59_1)] [(.int (128 : Int32)), (.int v59_1)])) t → Steps p.tables e below (s₁.setTop (entryFrame m #[(.ref xarr), (.int (0 : Int32)), (.int (4 : Int32))] 9)) t := by
            intro t k
            refine pre23 _ ?_
            show Steps p.tables e below (T9.setTop (mkF m 61 #[.val (.ref xarr), .val (.int (0 : Int32)), .val (.int (4 : Int32)), .val (.int v7), .val (.int v13), .val (.int (128 : Int32)), .val (.int (191 : Int32)), .val (.int (2 : Int32)), .val (.int v59_1)] [])) _
            refine XS.iload X9.here hx rfl (hb hby own_d1_61) rfl ?_
            show Steps p.tables e below (T9.setTop (mkF m 63 #[.val (.ref xarr), .val (.int (0 : Int32)), .val (.int (4 : Int32)), .val (.int v7), .val (.int v13), .val (.int (128 : Int32)), .val (.int (191 : Int32)), .val (.int (2 : Int32)), .val (.int v59_1)] [(.int v59_1)])) _
            refine XS.iload X9.here hx rfl (hb hby own_d1_63) rfl ?_
            exact k
          by_cases hc65_2 : v59_1 < (128 : Int32)
          · obtain ⟨fs, hr, hrun, hended, hW, hsame⟩ := X9.leave (v := some (.int (-1 : Int32))) (fun h => by rw [Bd.returns] at h; cases h)
            have ev25 : (own_cs 4 (z0 &&& (255 : Int32)) (z1 &&& (255 : Int32)) (z2 &&& (255 : Int32)) (z3 &&& (255 : Int32))) = (-1 : Int32) := by
              have hq := hv13
              simp only [own_cs, own_g2, own_g3, own_g4, ← hv7, ← hv13, ← hv20, ← hv27, ← hv59, ← hv59_1]
              simp [hc36, hc65, hc72, hc36_2, hc65_2]
            refine ⟨_, _, pre24 _ ?_, hrun, hended, _, _, rfl, ?_, ⟨_, rfl⟩, hW, hsame.mono (by decide) (by decide)⟩
            · show Steps p.tables e below (T9.setTop (mkF m 65 #[.val (.ref xarr), .val (.int (0 : Int32)), .val (.int (4 : Int32)), .val (.int v7), .val (.int v13), .val (.int (128 : Int32)), .val (.int (191 : Int32)), .val (.int (2 : Int32)), .val (.int v59_1)] [(.int (128 : Int32)), (.int v59_1)])) _
              refine XS.icmpYes X9.here hx rfl (pc0 := 65) (pc' := 75) rfl (hb hby own_d1_65) rfl (tlt hc65_2).1 (by decide) (by decide) ?_
              show Steps p.tables e below (T9.setTop (mkF m 75 #[.val (.ref xarr), .val (.int (0 : Int32)), .val (.int (4 : Int32)), .val (.int v7), .val (.int v13), .val (.int (128 : Int32)), .val (.int (191 : Int32)), .val (.int (2 : Int32)), .val (.int v59_1)] [])) _
              refine XS.iconst X9.here hx rfl (hb hby own_d1_75) ?_
              show Steps p.tables e below (T9.setTop (mkF m 76 #[.val (.ref xarr), .val (.int (0 : Int32)), .val (.int (4 : Int32)), .val (.int v7), .val (.int v13), .val (.int (128 : Int32)), .val (.int (191 : Int32)), .val (.int (2 : Int32)), .val (.int v59_1)] [(.int (-1 : Int32))])) _
              exact retI X9 hx Bd.returns (hb hby own_d1_76) hr
            · show own_Q1_0_4 Z xarr xk z0 z1 z2 z3 z4 wS cS wL cL wH cH h0 n0 _ T9.heap _
              rw [e9]
              exact ⟨(by rw [ev25]), N0, rfl⟩
          · have pre26 : ∀ t, Steps p.tables e below (T9.setTop (mkF m 72 #[.val (.ref xarr), .val (.int (0 : Int32)), .val (.int (4 : Int32)), .val (.int v7), .val (.int v13), .val (.int (128 : Int32)), .val (.int (191 : Int32)), .val (.int (2 : Int32)), .val (.int v59_1)] [(.int (191 : Int32)), (.int v59_1)])) t → Steps p.tables e below (s₁.setTop (entryFrame m #[(.ref xarr), (.int (0 : Int32)), (.int (4 : Int32))] 9)) t := by
              intro t k
              refine pre24 _ ?_
              show Steps p.tables e below (T9.setTop (mkF m 65 #[.val (.ref xarr), .val (.int (0 : Int32)), .val (.int (4 : Int32)), .val (.int v7), .val (.int v13), .val (.int (128 : Int32)), .val (.int (191 : Int32)), .val (.int (2 : Int32)), .val (.int v59_1)] [(.int (128 : Int32)), (.int v59_1)])) _
              refine XS.icmpNo X9.here hx rfl (hb hby own_d1_65) rfl (flt hc65_2).1 ?_
              show Steps p.tables e below (T9.setTop (mkF m 68 #[.val (.ref xarr), .val (.int (0 : Int32)), .val (.int (4 : Int32)), .val (.int v7), .val (.int v13), .val (.int (128 : Int32)), .val (.int (191 : Int32)), .val (.int (2 : Int32)), .val (.int v59_1)] [])) _
              refine XS.iload X9.here hx rfl (hb hby own_d1_68) rfl ?_
              show Steps p.tables e below (T9.setTop (mkF m 70 #[.val (.ref xarr), .val (.int (0 : Int32)), .val (.int (4 : Int32)), .val (.int v7), .val (.int v13), .val (.int (128 : Int32)), .val (.int (191 : Int32)), .val (.int (2 : Int32)), .val (.int v59_1)] [(.int v59_1)])) _
              refine XS.iload X9.here hx rfl (hb hby own_d1_70) rfl ?_
              exact k
            by_cases hc72_2 : (191 : Int32) < v59_1
            · obtain ⟨fs, hr, hrun, hended, hW, hsame⟩ := X9.leave (v := some (.int (-1 : Int32))) (fun h => by rw [Bd.returns] at h; cases h)
              have ev27 : (own_cs 4 (z0 &&& (255 : Int32)) (z1 &&& (255 : Int32)) (z2 &&& (255 : Int32)) (z3 &&& (255 : Int32))) = (-1 : Int32) := by
                have hq := hv13
                simp only [own_cs, own_g2, own_g3, own_g4, ← hv7, ← hv13, ← hv20, ← hv27, ← hv59, ← hv59_1]
                simp [hc36, hc65, hc72, hc36_2, hc65_2, hc72_2]
              refine ⟨_, _, pre26 _ ?_, hrun, hended, _, _, rfl, ?_, ⟨_, rfl⟩, hW, hsame.mono (by decide) (by decide)⟩
              · show Steps p.tables e below (T9.setTop (mkF m 72 #[.val (.ref xarr), .val (.int (0 : Int32)), .val (.int (4 : Int32)), .val (.int v7), .val (.int v13), .val (.int (128 : Int32)), .val (.int (191 : Int32)), .val (.int (2 : Int32)), .val (.int v59_1)] [(.int (191 : Int32)), (.int v59_1)])) _
                refine XS.icmpNo X9.here hx rfl (hb hby own_d1_72) rfl (tlt hc72_2).2.2.2 ?_
                show Steps p.tables e below (T9.setTop (mkF m 75 #[.val (.ref xarr), .val (.int (0 : Int32)), .val (.int (4 : Int32)), .val (.int v7), .val (.int v13), .val (.int (128 : Int32)), .val (.int (191 : Int32)), .val (.int (2 : Int32)), .val (.int v59_1)] [])) _
                refine XS.iconst X9.here hx rfl (hb hby own_d1_75) ?_
                show Steps p.tables e below (T9.setTop (mkF m 76 #[.val (.ref xarr), .val (.int (0 : Int32)), .val (.int (4 : Int32)), .val (.int v7), .val (.int v13), .val (.int (128 : Int32)), .val (.int (191 : Int32)), .val (.int (2 : Int32)), .val (.int v59_1)] [(.int (-1 : Int32))])) _
                exact retI X9 hx Bd.returns (hb hby own_d1_76) hr
              · show own_Q1_0_4 Z xarr xk z0 z1 z2 z3 z4 wS cS wL cL wH cH h0 n0 _ T9.heap _
                rw [e9]
                exact ⟨(by rw [ev27]), N0, rfl⟩
            · have pre28 : ∀ t, Steps p.tables e below (T9.setTop (mkF m 36 #[.val (.ref xarr), .val (.int (0 : Int32)), .val (.int (4 : Int32)), .val (.int v7), .val (.int v13), .val (.int (128 : Int32)), .val (.int (191 : Int32)), .val (.int (3 : Int32)), .val (.int v59_1)] [(.int v13), (.int (3 : Int32))])) t → Steps p.tables e below (s₁.setTop (entryFrame m #[(.ref xarr), (.int (0 : Int32)), (.int (4 : Int32))] 9)) t := by
                intro t k
                refine pre26 _ ?_
                show Steps p.tables e below (T9.setTop (mkF m 72 #[.val (.ref xarr), .val (.int (0 : Int32)), .val (.int (4 : Int32)), .val (.int v7), .val (.int v13), .val (.int (128 : Int32)), .val (.int (191 : Int32)), .val (.int (2 : Int32)), .val (.int v59_1)] [(.int (191 : Int32)), (.int v59_1)])) _
                refine XS.icmpYes X9.here hx rfl (pc0 := 72) (pc' := 77) rfl (hb hby own_d1_72) rfl (flt hc72_2).2.2.2 (by decide) (by decide) ?_
                show Steps p.tables e below (T9.setTop (mkF m 77 #[.val (.ref xarr), .val (.int (0 : Int32)), .val (.int (4 : Int32)), .val (.int v7), .val (.int v13), .val (.int (128 : Int32)), .val (.int (191 : Int32)), .val (.int (2 : Int32)), .val (.int v59_1)] [])) _
                refine XS.sipush X9.here hx rfl (hb hby own_d1_77) ?_
                show Steps p.tables e below (T9.setTop (mkF m 80 #[.val (.ref xarr), .val (.int (0 : Int32)), .val (.int (4 : Int32)), .val (.int v7), .val (.int v13), .val (.int (128 : Int32)), .val (.int (191 : Int32)), .val (.int (2 : Int32)), .val (.int v59_1)] [(.int (128 : Int32))])) _
                refine XS.istore X9.here hx rfl (hb hby own_d1_80) rfl (l' := #[.val (.ref xarr), .val (.int (0 : Int32)), .val (.int (4 : Int32)), .val (.int v7), .val (.int v13), .val (.int (128 : Int32)), .val (.int (191 : Int32)), .val (.int (2 : Int32)), .val (.int v59_1)]) rfl ?_
                show Steps p.tables e below (T9.setTop (mkF m 82 #[.val (.ref xarr), .val (.int (0 : Int32)), .val (.int (4 : Int32)), .val (.int v7), .val (.int v13), .val (.int (128 : Int32)), .val (.int (191 : Int32)), .val (.int (2 : Int32)), .val (.int v59_1)] [])) _
                refine XS.sipush X9.here hx rfl (hb hby own_d1_82) ?_
                show Steps p.tables e below (T9.setTop (mkF m 85 #[.val (.ref xarr), .val (.int (0 : Int32)), .val (.int (4 : Int32)), .val (.int v7), .val (.int v13), .val (.int (128 : Int32)), .val (.int (191 : Int32)), .val (.int (2 : Int32)), .val (.int v59_1)] [(.int (191 : Int32))])) _
                refine XS.istore X9.here hx rfl (hb hby own_d1_85) rfl (l' := #[.val (.ref xarr), .val (.int (0 : Int32)), .val (.int (4 : Int32)), .val (.int v7), .val (.int v13), .val (.int (128 : Int32)), .val (.int (191 : Int32)), .val (.int (2 : Int32)), .val (.int v59_1)]) rfl ?_
                show Steps p.tables e below (T9.setTop (mkF m 87 #[.val (.ref xarr), .val (.int (0 : Int32)), .val (.int (4 : Int32)), .val (.int v7), .val (.int v13), .val (.int (128 : Int32)), .val (.int (191 : Int32)), .val (.int (2 : Int32)), .val (.int v59_1)] [])) _
                refine XS.iinc X9.here hx rfl (hb hby own_d1_87) rfl (l' := #[.val (.ref xarr), .val (.int (0 : Int32)), .val (.int (4 : Int32)), .val (.int v7), .val (.int v13), .val (.int (128 : Int32)), .val (.int (191 : Int32)), .val (.int (3 : Int32)), .val (.int v59_1)]) rfl ?_
                show Steps p.tables e below (T9.setTop (mkF m 90 #[.val (.ref xarr), .val (.int (0 : Int32)), .val (.int (4 : Int32)), .val (.int v7), .val (.int v13), .val (.int (128 : Int32)), .val (.int (191 : Int32)), .val (.int (3 : Int32)), .val (.int v59_1)] [])) _
                refine XS.goto X9.here hx rfl (pc0 := 90) (pc' := 32) rfl (hb hby own_d1_90) (by decide) (by decide) ?_
                show Steps p.tables e below (T9.setTop (mkF m 32 #[.val (.ref xarr), .val (.int (0 : Int32)), .val (.int (4 : Int32)), .val (.int v7), .val (.int v13), .val (.int (128 : Int32)), .val (.int (191 : Int32)), .val (.int (3 : Int32)), .val (.int v59_1)] [])) _
                refine XS.iload X9.here hx rfl (hb hby own_d1_32) rfl ?_
                show Steps p.tables e below (T9.setTop (mkF m 34 #[.val (.ref xarr), .val (.int (0 : Int32)), .val (.int (4 : Int32)), .val (.int v7), .val (.int v13), .val (.int (128 : Int32)), .val (.int (191 : Int32)), .val (.int (3 : Int32)), .val (.int v59_1)] [(.int (3 : Int32))])) _
                refine XS.iload X9.here hx rfl (hb hby own_d1_34) rfl ?_
                exact k
              by_cases hc36_3 : (3 : Int32) < v13
              · have hd29 : ¬ ((3 : Int32) = (4 : Int32)) := (by decide)
                obtain ⟨cl30, Ar30, q30, S30, M30, H30, G30⟩ := id A_xarr
                have in30 := inb_of S30 (j := (3 : Int32)) ⟨by decide, by decide⟩
                obtain ⟨v59_2, hv59_2⟩ : ∃ w : Int32, w = (z3 &&& (255 : Int32)) := ⟨_, rfl⟩
                have pre31 : ∀ t, Steps p.tables e below (T9.setTop (mkF m 61 #[.val (.ref xarr), .val (.int (0 : Int32)), .val (.int (4 : Int32)), .val (.int v7), .val (.int v13), .val (.int (128 : Int32)), .val (.int (191 : Int32)), .val (.int (3 : Int32)), .val (.int v59_2)] [])) t → Steps p.tables e below (s₁.setTop (entryFrame m #[(.ref xarr), (.int (0 : Int32)), (.int (4 : Int32))] 9)) t := by
                  intro t k
                  rw [hv59_2] at k
                  refine pre28 _ ?_
                  show Steps p.tables e below (T9.setTop (mkF m 36 #[.val (.ref xarr), .val (.int (0 : Int32)), .val (.int (4 : Int32)), .val (.int v7), .val (.int v13), .val (.int (128 : Int32)), .val (.int (191 : Int32)), .val (.int (3 : Int32)), .val (.int v59_1)] [(.int v13), (.int (3 : Int32))])) _
                  refine XS.icmpNo X9.here hx rfl (hb hby own_d1_36) rfl (tlt hc36_3).2.1 ?_
                  show Steps p.tables e below (T9.setTop (mkF m 39 #[.val (.ref xarr), .val (.int (0 : Int32)), .val (.int (4 : Int32)), .val (.int v7), .val (.int v13), .val (.int (128 : Int32)), .val (.int (191 : Int32)), .val (.int (3 : Int32)), .val (.int v59_1)] [])) _
                  refine XS.iloadN X9.here hx rfl (hb hby own_d1_39) rfl ?_
                  show Steps p.tables e below (T9.setTop (mkF m 40 #[.val (.ref xarr), .val (.int (0 : Int32)), .val (.int (4 : Int32)), .val (.int v7), .val (.int v13), .val (.int (128 : Int32)), .val (.int (191 : Int32)), .val (.int (3 : Int32)), .val (.int v59_1)] [(.int (0 : Int32))])) _
                  refine XS.iload X9.here hx rfl (hb hby own_d1_40) rfl ?_
                  show Steps p.tables e below (T9.setTop (mkF m 42 #[.val (.ref xarr), .val (.int (0 : Int32)), .val (.int (4 : Int32)), .val (.int v7), .val (.int v13), .val (.int (128 : Int32)), .val (.int (191 : Int32)), .val (.int (3 : Int32)), .val (.int v59_1)] [(.int (3 : Int32)), (.int (0 : Int32))])) _
                  refine XS.iadd X9.here hx rfl (hb hby own_d1_42) rfl ?_
                  show Steps p.tables e below (T9.setTop (mkF m 43 #[.val (.ref xarr), .val (.int (0 : Int32)), .val (.int (4 : Int32)), .val (.int v7), .val (.int v13), .val (.int (128 : Int32)), .val (.int (191 : Int32)), .val (.int (3 : Int32)), .val (.int v59_1)] [(.int (3 : Int32))])) _
                  refine XS.iloadN X9.here hx rfl (hb hby own_d1_43) rfl ?_
                  show Steps p.tables e below (T9.setTop (mkF m 44 #[.val (.ref xarr), .val (.int (0 : Int32)), .val (.int (4 : Int32)), .val (.int v7), .val (.int v13), .val (.int (128 : Int32)), .val (.int (191 : Int32)), .val (.int (3 : Int32)), .val (.int v59_1)] [(.int (4 : Int32)), (.int (3 : Int32))])) _
                  refine XS.icmpYes X9.here hx rfl (pc0 := 44) (pc' := 49) rfl (hb hby own_d1_44) rfl (feq hd29).2 (by decide) (by decide) ?_
                  show Steps p.tables e below (T9.setTop (mkF m 49 #[.val (.ref xarr), .val (.int (0 : Int32)), .val (.int (4 : Int32)), .val (.int v7), .val (.int v13), .val (.int (128 : Int32)), .val (.int (191 : Int32)), .val (.int (3 : Int32)), .val (.int v59_1)] [])) _
                  refine XS.aloadN X9.here hx rfl (hb hby own_d1_49) rfl rfl ?_
                  show Steps p.tables e below (T9.setTop (mkF m 50 #[.val (.ref xarr), .val (.int (0 : Int32)), .val (.int (4 : Int32)), .val (.int v7), .val (.int v13), .val (.int (128 : Int32)), .val (.int (191 : Int32)), .val (.int (3 : Int32)), .val (.int v59_1)] [(.ref xarr)])) _
                  refine XS.iloadN X9.here hx rfl (hb hby own_d1_50) rfl ?_
                  show Steps p.tables e below (T9.setTop (mkF m 51 #[.val (.ref xarr), .val (.int (0 : Int32)), .val (.int (4 : Int32)), .val (.int v7), .val (.int v13), .val (.int (128 : Int32)), .val (.int (191 : Int32)), .val (.int (3 : Int32)), .val (.int v59_1)] [(.int (0 : Int32)), (.ref xarr)])) _
                  refine XS.iload X9.here hx rfl (hb hby own_d1_51) rfl ?_
                  show Steps p.tables e below (T9.setTop (mkF m 53 #[.val (.ref xarr), .val (.int (0 : Int32)), .val (.int (4 : Int32)), .val (.int v7), .val (.int v13), .val (.int (128 : Int32)), .val (.int (191 : Int32)), .val (.int (3 : Int32)), .val (.int v59_1)] [(.int (3 : Int32)), (.int (0 : Int32)), (.ref xarr)])) _
                  refine XS.iadd X9.here hx rfl (hb hby own_d1_53) rfl ?_
                  show Steps p.tables e below (T9.setTop (mkF m 54 #[.val (.ref xarr), .val (.int (0 : Int32)), .val (.int (4 : Int32)), .val (.int v7), .val (.int v13), .val (.int (128 : Int32)), .val (.int (191 : Int32)), .val (.int (3 : Int32)), .val (.int v59_1)] [(.int (3 : Int32)), (.ref xarr)])) _
                  refine X9.baloadBytes hx (j := (3 : Int32)) (v := (.int z3)) (by rw [e9]; exact Ar30.1) (State.isArrayOf_alike hZ.alike Ar30.2.1) Ar30.2.2 in30 (H30.at in30 rfl) (g := (mkF m 54 #[.val (.ref xarr), .val (.int (0 : Int32)), .val (.int (4 : Int32)), .val (.int v7), .val (.int v13), .val (.int (128 : Int32)), .val (.int (191 : Int32)), .val (.int (3 : Int32)), .val (.int v59_1)] [(.int (3 : Int32)), (.ref xarr)])) rfl rfl (hb hby own_d1_54) _ ?_
                  show Steps p.tables e below (T9.setTop (mkF m 55 #[.val (.ref xarr), .val (.int (0 : Int32)), .val (.int (4 : Int32)), .val (.int v7), .val (.int v13), .val (.int (128 : Int32)), .val (.int (191 : Int32)), .val (.int (3 : Int32)), .val (.int v59_1)] [(.int z3)])) _
                  refine XS.sipush X9.here hx rfl (hb hby own_d1_55) ?_
                  show Steps p.tables e below (T9.setTop (mkF m 58 #[.val (.ref xarr), .val (.int (0 : Int32)), .val (.int (4 : Int32)), .val (.int v7), .val (.int v13), .val (.int (128 : Int32)), .val (.int (191 : Int32)), .val (.int (3 : Int32)), .val (.int v59_1)] [(.int (255 : Int32)), (.int z3)])) _
                  refine XS.iand X9.here hx rfl (hb hby own_d1_58) rfl ?_
                  show Steps p.tables e below (T9.setTop (mkF m 59 #[.val (.ref xarr), .val (.int (0 : Int32)), .val (.int (4 : Int32)), .val (.int v7), .val (.int v13), .val (.int (128 : Int32)), .val (.int (191 : Int32)), .val (.int (3 : Int32)), .val (.int v59_1)] [(.int (z3 &&& (255 : Int32)))])) _
                  refine XS.istore X9.here hx rfl (hb hby own_d1_59) rfl (l' := #[.val (.ref xarr), .val (.int (0 : Int32)), .val (.int (4 : Int32)), .val (.int v7), .val (.int v13), .val (.int (128 : Int32)), .val (.int (191 : Int32)), .val (.int (3 : Int32)), .val (.int (z3 &&& (255 : Int32)))]) rfl ?_
                  exact k
                have pre32 : ∀ t, Steps p.tables e below (T9.setTop (mkF m 65 #[.val (.ref xarr), .val (.int (0 : Int32)), .val (.int (4 : Int32)), .val (.int v7), .val (.int v13), .val (.int (128 : Int32)), .val (.int (191 : Int32)), .val (.int (3 : Int32)), .val (.int v59_2)] [(.int (128 : Int32)), (.int v59_2)])) t → Steps p.tables e below (s₁.setTop (entryFrame m #[(.ref xarr), (.int (0 : Int32)), (.int (4 : Int32))] 9)) t := by
                  intro t k
                  refine pre31 _ ?_
                  show Steps p.tables e below (T9.setTop (mkF m 61 #[.val (.ref xarr), .val (.int (0 : Int32)), .val (.int (4 : Int32)), .val (.int v7), .val (.int v13), .val (.int (128 : Int32)), .val (.int (191 : Int32)), .val (.int (3 : Int32)), .val (.int v59_2)] [])) _
                  refine XS.iload X9.here hx rfl (hb hby own_d1_61) rfl ?_
                  show Steps p.tables e below (T9.setTop (mkF m 63 #[.val (.ref xarr), .val (.int (0 : Int32)), .val (.int (4 : Int32)), .val (.int v7), .val (.int v13), .val (.int (128 : Int32)), .val (.int (191 : Int32)), .val (.int (3 : Int32)), .val (.int v59_2)] [(.int v59_2)])) _
                  refine XS.iload X9.here hx rfl (hb hby own_d1_63) rfl ?_
                  exact k
                by_cases hc65_3 : v59_2 < (128 : Int32)
                · obtain ⟨fs, hr, hrun, hended, hW, hsame⟩ := X9.leave (v := some (.int (-1 : Int32))) (fun h => by rw [Bd.returns] at h; cases h)
                  have ev33 : (own_cs 4 (z0 &&& (255 : Int32)) (z1 &&& (255 : Int32)) (z2 &&& (255 : Int32)) (z3 &&& (255 : Int32))) = (-1 : Int32) := by
                    have hq := hv13
                    simp only [own_cs, own_g2, own_g3, own_g4, ← hv7, ← hv13, ← hv20, ← hv27, ← hv59, ← hv59_1, ← hv59_2]
                    simp [hc36, hc65, hc72, hc36_2, hc65_2, hc72_2, hc36_3, hc65_3]
                  refine ⟨_, _, pre32 _ ?_, hrun, hended, _, _, rfl, ?_, ⟨_, rfl⟩, hW, hsame.mono (by decide) (by decide)⟩
                  · show Steps p.tables e below (T9.setTop (mkF m 65 #[.val (.ref xarr), .val (.int (0 : Int32)), .val (.int (4 : Int32)), .val (.int v7), .val (.int v13), .val (.int (128 : Int32)), .val (.int (191 : Int32)), .val (.int (3 : Int32)), .val (.int v59_2)] [(.int (128 : Int32)), (.int v59_2)])) _
                    refine XS.icmpYes X9.here hx rfl (pc0 := 65) (pc' := 75) rfl (hb hby own_d1_65) rfl (tlt hc65_3).1 (by decide) (by decide) ?_
                    show Steps p.tables e below (T9.setTop (mkF m 75 #[.val (.ref xarr), .val (.int (0 : Int32)), .val (.int (4 : Int32)), .val (.int v7), .val (.int v13), .val (.int (128 : Int32)), .val (.int (191 : Int32)), .val (.int (3 : Int32)), .val (.int v59_2)] [])) _
                    refine XS.iconst X9.here hx rfl (hb hby own_d1_75) ?_
                    show Steps p.tables e below (T9.setTop (mkF m 76 #[.val (.ref xarr), .val (.int (0 : Int32)), .val (.int (4 : Int32)), .val (.int v7), .val (.int v13), .val (.int (128 : Int32)), .val (.int (191 : Int32)), .val (.int (3 : Int32)), .val (.int v59_2)] [(.int (-1 : Int32))])) _
                    exact retI X9 hx Bd.returns (hb hby own_d1_76) hr
                  · show own_Q1_0_4 Z xarr xk z0 z1 z2 z3 z4 wS cS wL cL wH cH h0 n0 _ T9.heap _
                    rw [e9]
                    exact ⟨(by rw [ev33]), N0, rfl⟩
                · have pre34 : ∀ t, Steps p.tables e below (T9.setTop (mkF m 72 #[.val (.ref xarr), .val (.int (0 : Int32)), .val (.int (4 : Int32)), .val (.int v7), .val (.int v13), .val (.int (128 : Int32)), .val (.int (191 : Int32)), .val (.int (3 : Int32)), .val (.int v59_2)] [(.int (191 : Int32)), (.int v59_2)])) t → Steps p.tables e below (s₁.setTop (entryFrame m #[(.ref xarr), (.int (0 : Int32)), (.int (4 : Int32))] 9)) t := by
                    intro t k
                    refine pre32 _ ?_
                    show Steps p.tables e below (T9.setTop (mkF m 65 #[.val (.ref xarr), .val (.int (0 : Int32)), .val (.int (4 : Int32)), .val (.int v7), .val (.int v13), .val (.int (128 : Int32)), .val (.int (191 : Int32)), .val (.int (3 : Int32)), .val (.int v59_2)] [(.int (128 : Int32)), (.int v59_2)])) _
                    refine XS.icmpNo X9.here hx rfl (hb hby own_d1_65) rfl (flt hc65_3).1 ?_
                    show Steps p.tables e below (T9.setTop (mkF m 68 #[.val (.ref xarr), .val (.int (0 : Int32)), .val (.int (4 : Int32)), .val (.int v7), .val (.int v13), .val (.int (128 : Int32)), .val (.int (191 : Int32)), .val (.int (3 : Int32)), .val (.int v59_2)] [])) _
                    refine XS.iload X9.here hx rfl (hb hby own_d1_68) rfl ?_
                    show Steps p.tables e below (T9.setTop (mkF m 70 #[.val (.ref xarr), .val (.int (0 : Int32)), .val (.int (4 : Int32)), .val (.int v7), .val (.int v13), .val (.int (128 : Int32)), .val (.int (191 : Int32)), .val (.int (3 : Int32)), .val (.int v59_2)] [(.int v59_2)])) _
                    refine XS.iload X9.here hx rfl (hb hby own_d1_70) rfl ?_
                    exact k
                  by_cases hc72_3 : (191 : Int32) < v59_2
                  · obtain ⟨fs, hr, hrun, hended, hW, hsame⟩ := X9.leave (v := some (.int (-1 : Int32))) (fun h => by rw [Bd.returns] at h; cases h)
                    have ev35 : (own_cs 4 (z0 &&& (255 : Int32)) (z1 &&& (255 : Int32)) (z2 &&& (255 : Int32)) (z3 &&& (255 : Int32))) = (-1 : Int32) := by
                      have hq := hv13
                      simp only [own_cs, own_g2, own_g3, own_g4, ← hv7, ← hv13, ← hv20, ← hv27, ← hv59, ← hv59_1, ← hv59_2]
                      simp [hc36, hc65, hc72, hc36_2, hc65_2, hc72_2, hc36_3, hc65_3, hc72_3]
                    refine ⟨_, _, pre34 _ ?_, hrun, hended, _, _, rfl, ?_, ⟨_, rfl⟩, hW, hsame.mono (by decide) (by decide)⟩
                    · show Steps p.tables e below (T9.setTop (mkF m 72 #[.val (.ref xarr), .val (.int (0 : Int32)), .val (.int (4 : Int32)), .val (.int v7), .val (.int v13), .val (.int (128 : Int32)), .val (.int (191 : Int32)), .val (.int (3 : Int32)), .val (.int v59_2)] [(.int (191 : Int32)), (.int v59_2)])) _
                      refine XS.icmpNo X9.here hx rfl (hb hby own_d1_72) rfl (tlt hc72_3).2.2.2 ?_
                      show Steps p.tables e below (T9.setTop (mkF m 75 #[.val (.ref xarr), .val (.int (0 : Int32)), .val (.int (4 : Int32)), .val (.int v7), .val (.int v13), .val (.int (128 : Int32)), .val (.int (191 : Int32)), .val (.int (3 : Int32)), .val (.int v59_2)] [])) _
                      refine XS.iconst X9.here hx rfl (hb hby own_d1_75) ?_
                      show Steps p.tables e below (T9.setTop (mkF m 76 #[.val (.ref xarr), .val (.int (0 : Int32)), .val (.int (4 : Int32)), .val (.int v7), .val (.int v13), .val (.int (128 : Int32)), .val (.int (191 : Int32)), .val (.int (3 : Int32)), .val (.int v59_2)] [(.int (-1 : Int32))])) _
                      exact retI X9 hx Bd.returns (hb hby own_d1_76) hr
                    · show own_Q1_0_4 Z xarr xk z0 z1 z2 z3 z4 wS cS wL cL wH cH h0 n0 _ T9.heap _
                      rw [e9]
                      exact ⟨(by rw [ev35]), N0, rfl⟩
                  · have pre36 : ∀ t, Steps p.tables e below (T9.setTop (mkF m 36 #[.val (.ref xarr), .val (.int (0 : Int32)), .val (.int (4 : Int32)), .val (.int v7), .val (.int v13), .val (.int (128 : Int32)), .val (.int (191 : Int32)), .val (.int (4 : Int32)), .val (.int v59_2)] [(.int v13), (.int (4 : Int32))])) t → Steps p.tables e below (s₁.setTop (entryFrame m #[(.ref xarr), (.int (0 : Int32)), (.int (4 : Int32))] 9)) t := by
                      intro t k
                      refine pre34 _ ?_
                      show Steps p.tables e below (T9.setTop (mkF m 72 #[.val (.ref xarr), .val (.int (0 : Int32)), .val (.int (4 : Int32)), .val (.int v7), .val (.int v13), .val (.int (128 : Int32)), .val (.int (191 : Int32)), .val (.int (3 : Int32)), .val (.int v59_2)] [(.int (191 : Int32)), (.int v59_2)])) _
                      refine XS.icmpYes X9.here hx rfl (pc0 := 72) (pc' := 77) rfl (hb hby own_d1_72) rfl (flt hc72_3).2.2.2 (by decide) (by decide) ?_
                      show Steps p.tables e below (T9.setTop (mkF m 77 #[.val (.ref xarr), .val (.int (0 : Int32)), .val (.int (4 : Int32)), .val (.int v7), .val (.int v13), .val (.int (128 : Int32)), .val (.int (191 : Int32)), .val (.int (3 : Int32)), .val (.int v59_2)] [])) _
                      refine XS.sipush X9.here hx rfl (hb hby own_d1_77) ?_
                      show Steps p.tables e below (T9.setTop (mkF m 80 #[.val (.ref xarr), .val (.int (0 : Int32)), .val (.int (4 : Int32)), .val (.int v7), .val (.int v13), .val (.int (128 : Int32)), .val (.int (191 : Int32)), .val (.int (3 : Int32)), .val (.int v59_2)] [(.int (128 : Int32))])) _
                      refine XS.istore X9.here hx rfl (hb hby own_d1_80) rfl (l' := #[.val (.ref xarr), .val (.int (0 : Int32)), .val (.int (4 : Int32)), .val (.int v7), .val (.int v13), .val (.int (128 : Int32)), .val (.int (191 : Int32)), .val (.int (3 : Int32)), .val (.int v59_2)]) rfl ?_
                      show Steps p.tables e below (T9.setTop (mkF m 82 #[.val (.ref xarr), .val (.int (0 : Int32)), .val (.int (4 : Int32)), .val (.int v7), .val (.int v13), .val (.int (128 : Int32)), .val (.int (191 : Int32)), .val (.int (3 : Int32)), .val (.int v59_2)] [])) _
                      refine XS.sipush X9.here hx rfl (hb hby own_d1_82) ?_
                      show Steps p.tables e below (T9.setTop (mkF m 85 #[.val (.ref xarr), .val (.int (0 : Int32)), .val (.int (4 : Int32)), .val (.int v7), .val (.int v13), .val (.int (128 : Int32)), .val (.int (191 : Int32)), .val (.int (3 : Int32)), .val (.int v59_2)] [(.int (191 : Int32))])) _
                      refine XS.istore X9.here hx rfl (hb hby own_d1_85) rfl (l' := #[.val (.ref xarr), .val (.int (0 : Int32)), .val (.int (4 : Int32)), .val (.int v7), .val (.int v13), .val (.int (128 : Int32)), .val (.int (191 : Int32)), .val (.int (3 : Int32)), .val (.int v59_2)]) rfl ?_
                      show Steps p.tables e below (T9.setTop (mkF m 87 #[.val (.ref xarr), .val (.int (0 : Int32)), .val (.int (4 : Int32)), .val (.int v7), .val (.int v13), .val (.int (128 : Int32)), .val (.int (191 : Int32)), .val (.int (3 : Int32)), .val (.int v59_2)] [])) _
                      refine XS.iinc X9.here hx rfl (hb hby own_d1_87) rfl (l' := #[.val (.ref xarr), .val (.int (0 : Int32)), .val (.int (4 : Int32)), .val (.int v7), .val (.int v13), .val (.int (128 : Int32)), .val (.int (191 : Int32)), .val (.int (4 : Int32)), .val (.int v59_2)]) rfl ?_
                      show Steps p.tables e below (T9.setTop (mkF m 90 #[.val (.ref xarr), .val (.int (0 : Int32)), .val (.int (4 : Int32)), .val (.int v7), .val (.int v13), .val (.int (128 : Int32)), .val (.int (191 : Int32)), .val (.int (4 : Int32)), .val (.int v59_2)] [])) _
                      refine XS.goto X9.here hx rfl (pc0 := 90) (pc' := 32) rfl (hb hby own_d1_90) (by decide) (by decide) ?_
                      show Steps p.tables e below (T9.setTop (mkF m 32 #[.val (.ref xarr), .val (.int (0 : Int32)), .val (.int (4 : Int32)), .val (.int v7), .val (.int v13), .val (.int (128 : Int32)), .val (.int (191 : Int32)), .val (.int (4 : Int32)), .val (.int v59_2)] [])) _
                      refine XS.iload X9.here hx rfl (hb hby own_d1_32) rfl ?_
                      show Steps p.tables e below (T9.setTop (mkF m 34 #[.val (.ref xarr), .val (.int (0 : Int32)), .val (.int (4 : Int32)), .val (.int v7), .val (.int v13), .val (.int (128 : Int32)), .val (.int (191 : Int32)), .val (.int (4 : Int32)), .val (.int v59_2)] [(.int (4 : Int32))])) _
                      refine XS.iload X9.here hx rfl (hb hby own_d1_34) rfl ?_
                      exact k
                    by_cases hc36_4 : (4 : Int32) < v13
                    · obtain ⟨fs, hr, hrun, hended, hW, hsame⟩ := X9.leave (v := some (.int (0 : Int32))) (fun h => by rw [Bd.returns] at h; cases h)
                      have ev37 : (own_cs 4 (z0 &&& (255 : Int32)) (z1 &&& (255 : Int32)) (z2 &&& (255 : Int32)) (z3 &&& (255 : Int32))) = (0 : Int32) := by
                        have hq := hv13
                        simp only [own_cs, own_g2, own_g3, own_g4, ← hv7, ← hv13, ← hv20, ← hv27, ← hv59, ← hv59_1, ← hv59_2]
                        simp [hc36, hc65, hc72, hc36_2, hc65_2, hc72_2, hc36_3, hc65_3, hc72_3, hc36_4]
                      refine ⟨_, _, pre36 _ ?_, hrun, hended, _, _, rfl, ?_, ⟨_, rfl⟩, hW, hsame.mono (by decide) (by decide)⟩
                      · show Steps p.tables e below (T9.setTop (mkF m 36 #[.val (.ref xarr), .val (.int (0 : Int32)), .val (.int (4 : Int32)), .val (.int v7), .val (.int v13), .val (.int (128 : Int32)), .val (.int (191 : Int32)), .val (.int (4 : Int32)), .val (.int v59_2)] [(.int v13), (.int (4 : Int32))])) _
                        refine XS.icmpNo X9.here hx rfl (hb hby own_d1_36) rfl (tlt hc36_4).2.1 ?_
                        show Steps p.tables e below (T9.setTop (mkF m 39 #[.val (.ref xarr), .val (.int (0 : Int32)), .val (.int (4 : Int32)), .val (.int v7), .val (.int v13), .val (.int (128 : Int32)), .val (.int (191 : Int32)), .val (.int (4 : Int32)), .val (.int v59_2)] [])) _
                        refine XS.iloadN X9.here hx rfl (hb hby own_d1_39) rfl ?_
                        show Steps p.tables e below (T9.setTop (mkF m 40 #[.val (.ref xarr), .val (.int (0 : Int32)), .val (.int (4 : Int32)), .val (.int v7), .val (.int v13), .val (.int (128 : Int32)), .val (.int (191 : Int32)), .val (.int (4 : Int32)), .val (.int v59_2)] [(.int (0 : Int32))])) _
                        refine XS.iload X9.here hx rfl (hb hby own_d1_40) rfl ?_
                        show Steps p.tables e below (T9.setTop (mkF m 42 #[.val (.ref xarr), .val (.int (0 : Int32)), .val (.int (4 : Int32)), .val (.int v7), .val (.int v13), .val (.int (128 : Int32)), .val (.int (191 : Int32)), .val (.int (4 : Int32)), .val (.int v59_2)] [(.int (4 : Int32)), (.int (0 : Int32))])) _
                        refine XS.iadd X9.here hx rfl (hb hby own_d1_42) rfl ?_
                        show Steps p.tables e below (T9.setTop (mkF m 43 #[.val (.ref xarr), .val (.int (0 : Int32)), .val (.int (4 : Int32)), .val (.int v7), .val (.int v13), .val (.int (128 : Int32)), .val (.int (191 : Int32)), .val (.int (4 : Int32)), .val (.int v59_2)] [(.int (4 : Int32))])) _
                        refine XS.iloadN X9.here hx rfl (hb hby own_d1_43) rfl ?_
                        show Steps p.tables e below (T9.setTop (mkF m 44 #[.val (.ref xarr), .val (.int (0 : Int32)), .val (.int (4 : Int32)), .val (.int v7), .val (.int v13), .val (.int (128 : Int32)), .val (.int (191 : Int32)), .val (.int (4 : Int32)), .val (.int v59_2)] [(.int (4 : Int32)), (.int (4 : Int32))])) _
                        refine XS.icmpNo X9.here hx rfl (hb hby own_d1_44) rfl (teq rfl).2 ?_
                        show Steps p.tables e below (T9.setTop (mkF m 47 #[.val (.ref xarr), .val (.int (0 : Int32)), .val (.int (4 : Int32)), .val (.int v7), .val (.int v13), .val (.int (128 : Int32)), .val (.int (191 : Int32)), .val (.int (4 : Int32)), .val (.int v59_2)] [])) _
                        refine XS.iconst X9.here hx rfl (hb hby own_d1_47) ?_
                        show Steps p.tables e below (T9.setTop (mkF m 48 #[.val (.ref xarr), .val (.int (0 : Int32)), .val (.int (4 : Int32)), .val (.int v7), .val (.int v13), .val (.int (128 : Int32)), .val (.int (191 : Int32)), .val (.int (4 : Int32)), .val (.int v59_2)] [(.int (0 : Int32))])) _
                        exact retI X9 hx Bd.returns (hb hby own_d1_48) hr
                      · show own_Q1_0_4 Z xarr xk z0 z1 z2 z3 z4 wS cS wL cL wH cH h0 n0 _ T9.heap _
                        rw [e9]
                        exact ⟨(by rw [ev37]), N0, rfl⟩
                    · obtain ⟨fs, hr, hrun, hended, hW, hsame⟩ := X9.leave (v := some (.int v13)) (fun h => by rw [Bd.returns] at h; cases h)
                      have ev38 : (own_cs 4 (z0 &&& (255 : Int32)) (z1 &&& (255 : Int32)) (z2 &&& (255 : Int32)) (z3 &&& (255 : Int32))) = v13 := by
                        have hq := hv13
                        simp only [own_cs, own_g2, own_g3, own_g4, ← hv7, ← hv13, ← hv20, ← hv27, ← hv59, ← hv59_1, ← hv59_2]
                        simp [hc36, hc65, hc72, hc36_2, hc65_2, hc72_2, hc36_3, hc65_3, hc72_3, hc36_4]
                      refine ⟨_, _, pre36 _ ?_, hrun, hended, _, _, rfl, ?_, ⟨_, rfl⟩, hW, hsame.mono (by decide) (by decide)⟩
                      · show Steps p.tables e below (T9.setTop (mkF m 36 #[.val (.ref xarr), .val (.int (0 : Int32)), .val (.int (4 : Int32)), .val (.int v7), .val (.int v13), .val (.int (128 : Int32)), .val (.int (191 : Int32)), .val (.int (4 : Int32)), .val (.int v59_2)] [(.int v13), (.int (4 : Int32))])) _
                        refine XS.icmpYes X9.here hx rfl (pc0 := 36) (pc' := 93) rfl (hb hby own_d1_36) rfl (flt hc36_4).2.1 (by decide) (by decide) ?_
                        show Steps p.tables e below (T9.setTop (mkF m 93 #[.val (.ref xarr), .val (.int (0 : Int32)), .val (.int (4 : Int32)), .val (.int v7), .val (.int v13), .val (.int (128 : Int32)), .val (.int (191 : Int32)), .val (.int (4 : Int32)), .val (.int v59_2)] [])) _
                        refine XS.iload X9.here hx rfl (hb hby own_d1_93) rfl ?_
                        show Steps p.tables e below (T9.setTop (mkF m 95 #[.val (.ref xarr), .val (.int (0 : Int32)), .val (.int (4 : Int32)), .val (.int v7), .val (.int v13), .val (.int (128 : Int32)), .val (.int (191 : Int32)), .val (.int (4 : Int32)), .val (.int v59_2)] [(.int v13)])) _
                        exact retI X9 hx Bd.returns (hb hby own_d1_95) hr
                      · show own_Q1_0_4 Z xarr xk z0 z1 z2 z3 z4 wS cS wL cL wH cH h0 n0 _ T9.heap _
                        rw [e9]
                        exact ⟨(by rw [ev38]), N0, rfl⟩
              · obtain ⟨fs, hr, hrun, hended, hW, hsame⟩ := X9.leave (v := some (.int v13)) (fun h => by rw [Bd.returns] at h; cases h)
                have ev39 : (own_cs 4 (z0 &&& (255 : Int32)) (z1 &&& (255 : Int32)) (z2 &&& (255 : Int32)) (z3 &&& (255 : Int32))) = v13 := by
                  have hq := hv13
                  simp only [own_cs, own_g2, own_g3, own_g4, ← hv7, ← hv13, ← hv20, ← hv27, ← hv59, ← hv59_1]
                  simp [hc36, hc65, hc72, hc36_2, hc65_2, hc72_2, hc36_3]
                refine ⟨_, _, pre28 _ ?_, hrun, hended, _, _, rfl, ?_, ⟨_, rfl⟩, hW, hsame.mono (by decide) (by decide)⟩
                · show Steps p.tables e below (T9.setTop (mkF m 36 #[.val (.ref xarr), .val (.int (0 : Int32)), .val (.int (4 : Int32)), .val (.int v7), .val (.int v13), .val (.int (128 : Int32)), .val (.int (191 : Int32)), .val (.int (3 : Int32)), .val (.int v59_1)] [(.int v13), (.int (3 : Int32))])) _
                  refine XS.icmpYes X9.here hx rfl (pc0 := 36) (pc' := 93) rfl (hb hby own_d1_36) rfl (flt hc36_3).2.1 (by decide) (by decide) ?_
                  show Steps p.tables e below (T9.setTop (mkF m 93 #[.val (.ref xarr), .val (.int (0 : Int32)), .val (.int (4 : Int32)), .val (.int v7), .val (.int v13), .val (.int (128 : Int32)), .val (.int (191 : Int32)), .val (.int (3 : Int32)), .val (.int v59_1)] [])) _
                  refine XS.iload X9.here hx rfl (hb hby own_d1_93) rfl ?_
                  show Steps p.tables e below (T9.setTop (mkF m 95 #[.val (.ref xarr), .val (.int (0 : Int32)), .val (.int (4 : Int32)), .val (.int v7), .val (.int v13), .val (.int (128 : Int32)), .val (.int (191 : Int32)), .val (.int (3 : Int32)), .val (.int v59_1)] [(.int v13)])) _
                  exact retI X9 hx Bd.returns (hb hby own_d1_95) hr
                · show own_Q1_0_4 Z xarr xk z0 z1 z2 z3 z4 wS cS wL cL wH cH h0 n0 _ T9.heap _
                  rw [e9]
                  exact ⟨(by rw [ev39]), N0, rfl⟩
        · obtain ⟨fs, hr, hrun, hended, hW, hsame⟩ := X9.leave (v := some (.int v13)) (fun h => by rw [Bd.returns] at h; cases h)
          have ev40 : (own_cs 4 (z0 &&& (255 : Int32)) (z1 &&& (255 : Int32)) (z2 &&& (255 : Int32)) (z3 &&& (255 : Int32))) = v13 := by
            have hq := hv13
            simp only [own_cs, own_g2, own_g3, own_g4, ← hv7, ← hv13, ← hv20, ← hv27, ← hv59]
            simp [hc36, hc65, hc72, hc36_2]
          refine ⟨_, _, pre20 _ ?_, hrun, hended, _, _, rfl, ?_, ⟨_, rfl⟩, hW, hsame.mono (by decide) (by decide)⟩
          · show Steps p.tables e below (T9.setTop (mkF m 36 #[.val (.ref xarr), .val (.int (0 : Int32)), .val (.int (4 : Int32)), .val (.int v7), .val (.int v13), .val (.int (128 : Int32)), .val (.int (191 : Int32)), .val (.int (2 : Int32)), .val (.int v59)] [(.int v13), (.int (2 : Int32))])) _
            refine XS.icmpYes X9.here hx rfl (pc0 := 36) (pc' := 93) rfl (hb hby own_d1_36) rfl (flt hc36_2).2.1 (by decide) (by decide) ?_
            show Steps p.tables e below (T9.setTop (mkF m 93 #[.val (.ref xarr), .val (.int (0 : Int32)), .val (.int (4 : Int32)), .val (.int v7), .val (.int v13), .val (.int (128 : Int32)), .val (.int (191 : Int32)), .val (.int (2 : Int32)), .val (.int v59)] [])) _
            refine XS.iload X9.here hx rfl (hb hby own_d1_93) rfl ?_
            show Steps p.tables e below (T9.setTop (mkF m 95 #[.val (.ref xarr), .val (.int (0 : Int32)), .val (.int (4 : Int32)), .val (.int v7), .val (.int v13), .val (.int (128 : Int32)), .val (.int (191 : Int32)), .val (.int (2 : Int32)), .val (.int v59)] [(.int v13)])) _
            exact retI X9 hx Bd.returns (hb hby own_d1_95) hr
          · show own_Q1_0_4 Z xarr xk z0 z1 z2 z3 z4 wS cS wL cL wH cH h0 n0 _ T9.heap _
            rw [e9]
            exact ⟨(by rw [ev40]), N0, rfl⟩
  · obtain ⟨fs, hr, hrun, hended, hW, hsame⟩ := X9.leave (v := some (.int v13)) (fun h => by rw [Bd.returns] at h; cases h)
    have ev41 : (own_cs 4 (z0 &&& (255 : Int32)) (z1 &&& (255 : Int32)) (z2 &&& (255 : Int32)) (z3 &&& (255 : Int32))) = v13 := by
      have hq := hv13
      simp only [own_cs, own_g2, own_g3, own_g4, ← hv7, ← hv13, ← hv20, ← hv27]
      simp [hc36]
    refine ⟨_, _, pre12 _ ?_, hrun, hended, _, _, rfl, ?_, ⟨_, rfl⟩, hW, hsame.mono (by decide) (by decide)⟩
    · show Steps p.tables e below (T9.setTop (mkF m 36 #[.val (.ref xarr), .val (.int (0 : Int32)), .val (.int (4 : Int32)), .val (.int v7), .val (.int v13), .val (.int v20), .val (.int v27), .val (.int (1 : Int32)), .unset] [(.int v13), (.int (1 : Int32))])) _
      refine XS.icmpYes X9.here hx rfl (pc0 := 36) (pc' := 93) rfl (hb hby own_d1_36) rfl (flt hc36).2.1 (by decide) (by decide) ?_
      show Steps p.tables e below (T9.setTop (mkF m 93 #[.val (.ref xarr), .val (.int (0 : Int32)), .val (.int (4 : Int32)), .val (.int v7), .val (.int v13), .val (.int v20), .val (.int v27), .val (.int (1 : Int32)), .unset] [])) _
      refine XS.iload X9.here hx rfl (hb hby own_d1_93) rfl ?_
      show Steps p.tables e below (T9.setTop (mkF m 95 #[.val (.ref xarr), .val (.int (0 : Int32)), .val (.int (4 : Int32)), .val (.int v7), .val (.int v13), .val (.int v20), .val (.int v27), .val (.int (1 : Int32)), .unset] [(.int v13)])) _
      exact retI X9 hx Bd.returns (hb hby own_d1_95) hr
    · show own_Q1_0_4 Z xarr xk z0 z1 z2 z3 z4 wS cS wL cL wH cH h0 n0 _ T9.heap _
      rw [e9]
      exact ⟨(by rw [ev41]), N0, rfl⟩
def own_Q1_1_1 (Z : State) (xarr : Addr) (xk : ClassId) (z0 : Int32) (z1 : Int32) (z2 : Int32) (z3 : Int32) (z4 : Int32) (wS : Addr) (cS : Cell) (wL : Addr) (cL : Cell) (wH : Addr) (cH : Cell) (h0 : Heap) (n0 : Nat) (v : Option Value) (h : Heap) (L : List Loc) : Prop := v = some (.int (own_cs 1 (z1 &&& (255 : Int32)) (z2 &&& (255 : Int32)) (z3 &&& (255 : Int32)) (z4 &&& (255 : Int32)))) ∧ Fr n0 L ∧ h = h0
theorem own_ef1_1_1 (m : MethodId) (xarr : Addr) : entryFrame m #[(.ref xarr), (.int (1 : Int32)), (.int (2 : Int32))] 9 = mkF m 0 #[.val (.ref xarr), .val (.int (1 : Int32)), .val (.int (2 : Int32)), .unset, .unset, .unset, .unset, .unset, .unset] [] := by first | (simp [entryFrame, mkF, argsToLocals, Value.category]; done) | rfl
set_option maxRecDepth 65536 in
set_option maxHeartbeats 40000000 in
theorem own_rm1_1_1 (l : Launch) (Z : State) (a0 : Array Value) (hw : ∀ d ∈ tables_1, d.before a0 Z = true) (ws : List Jvm.Cond) (xarr : Addr) (xk : ClassId) (z0 : Int32) (z1 : Int32) (z2 : Int32) (z3 : Int32) (z4 : Int32) (wS : Addr) (cS : Cell) (wL : Addr) (cL : Cell) (wH : Addr) (cH : Cell) (h0 : Heap) (n0 : Nat) (Z0 : n0 ≤ h0.size) (A_xarr : Arv Z h0 xarr xk .byte (5 : Int32) [(.int z0), (.int z1), (.int z2), (.int z3), (.int z4)] (.int (0 : Int32))) (S_SIZES : Sta Z h0 "com/example/stratafile/stratafile/io/Utf8" "SIZES" "[B" (.ref wS)) (R_wS : Arr Z h0 wS cS .byte) (S_SECOND_LOWEST : Sta Z h0 "com/example/stratafile/stratafile/io/Utf8" "SECOND_LOWEST" "[I" (.ref wL)) (R_wL : Arr Z h0 wL cL .int) (S_SECOND_HIGHEST : Sta Z h0 "com/example/stratafile/stratafile/io/Utf8" "SECOND_HIGHEST" "[I" (.ref wH)) (R_wH : Arr Z h0 wH cH .int) (szcS : cS.slots.size = (256 : Int32).toNatClampNeg) (tacS : ∀ j : Int32, ¬ (j < 0 ∨ cS.slots.size ≤ j.toNatClampNeg) → cS.slots[j.toNatClampNeg]? = some (.int (own_szT j))) (szcL : cL.slots.size = (256 : Int32).toNatClampNeg) (tacL : ∀ j : Int32, ¬ (j < 0 ∨ cL.slots.size ≤ j.toNatClampNeg) → cL.slots[j.toNatClampNeg]? = some (.int (own_loT j))) (szcH : cH.slots.size = (256 : Int32).toNatClampNeg) (tacH : ∀ j : Int32, ¬ (j < 0 ∨ cH.slots.size ≤ j.toNatClampNeg) → cH.slots[j.toNatClampNeg]? = some (.int (own_hiT j))) :
    MetFree l (⟨"com/example/stratafile/stratafile/io/Utf8", "characterSize", "([BII)I"⟩ : MethodName) (head1 (Jvm.Cond.code (⟨"com/example/stratafile/stratafile/io/Utf8", "characterSize", "([BII)I"⟩ : MethodName) prog_115_method_3_code 9 (some .int) :: ws) ({ frames := 0, cells := 0, slots := 0, locals := 0 } : Room)) (fun a U => a = #[(.ref xarr), (.int (1 : Int32)), (.int (2 : Int32))] ∧ Z.Warmed39 U.vm ∧ U.heap = h0) (fun _ _ _ _ _ => True) (fun _ U o U' => ∃ v L, o = .returned v ∧ own_Q1_1_1 Z xarr xk z0 z1 z2 z3 z4 wS cS wL cL wH cH h0 n0 v U'.heap L ∧ FrameEnd U o U' L ({ frames := 0, cells := 0, slots := 0, locals := 0 } : Room).cells ({ frames := 0, cells := 0, slots := 0, locals := 0 } : Room).slots) := by
  refine MetFree.of_bodySF (plainFor_of_name own_pn1) hisR ?_
  intro p e s m args below meth c s₁ Bd hml0 hP hK
  obtain ⟨rfl, hZ, hh⟩ := hP
  have hx := Bd.exec
  have hby := Bd.bytes
  have hml : c.maxLocals = 9 := hml0
  have hown : s.vm.findClass "com/example/stratafile/stratafile/io/Utf8" = some m.cls := findClass_of_methodNamed Bd.named
  have hnm := (name_of_methodNamed Bd.named Bd.method).1
  have X0 : Stand p l e ({ frames := 0, cells := 0, slots := 0, locals := 0 } : Room) s m #[(.ref xarr), (.int (1 : Int32)), (.int (2 : Int32))] below meth c s₁ [] 0 0 := Stand.of_body Bd
  have e0 : s₁.heap = h0 := by rw [← hh, Bd.state]; rfl
  have N0 := Fr.nil n0
  have pre0 : ∀ t, Steps p.tables e below (s₁.setTop (mkF m 0 #[.val (.ref xarr), .val (.int (1 : Int32)), .val (.int (2 : Int32)), .unset, .unset, .unset, .unset, .unset, .unset] [])) t → Steps p.tables e below (s₁.setTop (entryFrame m #[(.ref xarr), (.int (1 : Int32)), (.int (2 : Int32))] 9)) t := fun t k => castTop (own_ef1_1_1 m xarr) k
  obtain ⟨cl1, Ar1, q1, S1, M1, H1, G1⟩ := id A_xarr
  have in1 := inb_of S1 (j := (1 : Int32)) ⟨by decide, by decide⟩
  obtain ⟨v7, hv7⟩ : ∃ w : Int32, w = (z1 &&& (255 : Int32)) := ⟨_, rfl⟩
  have pre2 : ∀ t, Steps p.tables e below (s₁.setTop (mkF m 8 #[.val (.ref xarr), .val (.int (1 : Int32)), .val (.int (2 : Int32)), .val (.int v7), .unset, .unset, .unset, .unset, .unset] [])) t → Steps p.tables e below (s₁.setTop (entryFrame m #[(.ref xarr), (.int (1 : Int32)), (.int (2 : Int32))] 9)) t := by
    intro t k
    rw [hv7] at k
    refine pre0 _ ?_
    show Steps p.tables e below (s₁.setTop (mkF m 0 #[.val (.ref xarr), .val (.int (1 : Int32)), .val (.int (2 : Int32)), .unset, .unset, .unset, .unset, .unset, .unset] [])) _
    refine XS.aloadN X0.here hx rfl (hb hby own_d1_0) rfl rfl ?_
    show Steps p.tables e below (s₁.setTop (mkF m 1 #[.val (.ref xarr), .val (.int (1 : Int32)), .val (.int (2 : Int32)), .unset, .unset, .unset, .unset, .unset, .unset] [(.ref xarr)])) _
    refine XS.iloadN X0.here hx rfl (hb hby own_d1_1) rfl ?_
    show Steps p.tables e below (s₁.setTop (mkF m 2 #[.val (.ref xarr), .val (.int (1 : Int32)), .val (.int (2 : Int32)), .unset, .unset, .unset, .unset, .unset, .unset] [(.int (1 : Int32)), (.ref xarr)])) _
    refine X0.baloadBytes hx (j := (1 : Int32)) (v := (.int z1)) (by rw [e0]; exact Ar1.1) (State.isArrayOf_alike hZ.alike Ar1.2.1) Ar1.2.2 in1 (H1.at in1 rfl) (g := (mkF m 2 #[.val (.ref xarr), .val (.int (1 : Int32)), .val (.int (2 : Int32)), .unset, .unset, .unset, .unset, .unset, .unset] [(.int (1 : Int32)), (.ref xarr)])) rfl rfl (hb hby own_d1_2) _ ?_
    show Steps p.tables e below (s₁.setTop (mkF m 3 #[.val (.ref xarr), .val (.int (1 : Int32)), .val (.int (2 : Int32)), .unset, .unset, .unset, .unset, .unset, .unset] [(.int z1)])) _
    refine XS.sipush X0.here hx rfl (hb hby own_d1_3) ?_
    show Steps p.tables e below (s₁.setTop (mkF m 6 #[.val (.ref xarr), .val (.int (1 : Int32)), .val (.int (2 : Int32)), .unset, .unset, .unset, .unset, .unset, .unset] [(.int (255 : Int32)), (.int z1)])) _
    refine XS.iand X0.here hx rfl (hb hby own_d1_6) rfl ?_
    show Steps p.tables e below (s₁.setTop (mkF m 7 #[.val (.ref xarr), .val (.int (1 : Int32)), .val (.int (2 : Int32)), .unset, .unset, .unset, .unset, .unset, .unset] [(.int (z1 &&& (255 : Int32)))])) _
    refine XS.istoreN X0.here hx rfl (hb hby own_d1_7) rfl (l' := #[.val (.ref xarr), .val (.int (1 : Int32)), .val (.int (2 : Int32)), .val (.int (z1 &&& (255 : Int32))), .unset, .unset, .unset, .unset, .unset]) rfl ?_
    exact k
  have hv7r : ¬ v7 < 0 ∧ v7 < (256 : Int32) := by rw [hv7]; exact own_b255 _
  obtain ⟨T3, X3, e3, st3⟩ := getS2 X0 hx hZ hown (host := "") (Or.inl (hw _ (List.mem_of_getElem? (i := 5) rfl))) Via.refl e0 S_SIZES (g := (mkF m 8 #[.val (.ref xarr), .val (.int (1 : Int32)), .val (.int (2 : Int32)), .val (.int v7), .unset, .unset, .unset, .unset, .unset] [])) rfl (hb hby own_d1_8)
  have in4 : ¬ (v7 < 0 ∨ cS.slots.size ≤ (v7).toNatClampNeg) := inb_of szcS hv7r
  obtain ⟨v13, hv13⟩ : ∃ w : Int32, w = (own_szT v7) := ⟨_, rfl⟩
  have pre5 : ∀ t, Steps p.tables e below (T3.setTop (mkF m 15 #[.val (.ref xarr), .val (.int (1 : Int32)), .val (.int (2 : Int32)), .val (.int v7), .val (.int v13), .unset, .unset, .unset, .unset] [])) t → Steps p.tables e below (s₁.setTop (entryFrame m #[(.ref xarr), (.int (1 : Int32)), (.int (2 : Int32))] 9)) t := by
    intro t k
    rw [hv13] at k
    refine pre2 _ ?_
    show Steps p.tables e below (s₁.setTop (mkF m 8 #[.val (.ref xarr), .val (.int (1 : Int32)), .val (.int (2 : Int32)), .val (.int v7), .unset, .unset, .unset, .unset, .unset] [])) _
    refine st3 _ ?_
    show Steps p.tables e below (T3.setTop (mkF m 11 #[.val (.ref xarr), .val (.int (1 : Int32)), .val (.int (2 : Int32)), .val (.int v7), .unset, .unset, .unset, .unset, .unset] [(.ref wS)])) _
    refine XS.iloadN X3.here hx rfl (hb hby own_d1_11) rfl ?_
    show Steps p.tables e below (T3.setTop (mkF m 12 #[.val (.ref xarr), .val (.int (1 : Int32)), .val (.int (2 : Int32)), .val (.int v7), .unset, .unset, .unset, .unset, .unset] [(.int v7), (.ref wS)])) _
    refine X3.baloadBytes hx (j := v7) (v := (.int (own_szT v7))) (by rw [e3]; exact R_wS.1) (State.isArrayOf_alike hZ.alike R_wS.2.1) R_wS.2.2 in4 (tacS _ in4) (g := (mkF m 12 #[.val (.ref xarr), .val (.int (1 : Int32)), .val (.int (2 : Int32)), .val (.int v7), .unset, .unset, .unset, .unset, .unset] [(.int v7), (.ref wS)])) rfl rfl (hb hby own_d1_12) _ ?_
    show Steps p.tables e below (T3.setTop (mkF m 13 #[.val (.ref xarr), .val (.int (1 : Int32)), .val (.int (2 : Int32)), .val (.int v7), .unset, .unset, .unset, .unset, .unset] [(.int (own_szT v7))])) _
    refine XS.istore X3.here hx rfl (hb hby own_d1_13) rfl (l' := #[.val (.ref xarr), .val (.int (1 : Int32)), .val (.int (2 : Int32)), .val (.int v7), .val (.int (own_szT v7)), .unset, .unset, .unset, .unset]) rfl ?_
    exact k
  obtain ⟨T6, X6, e6, st6⟩ := getS2 X3 hx hZ hown (host := "") (Or.inl (hw _ (List.mem_of_getElem? (i := 7) rfl))) Via.refl e3 S_SECOND_LOWEST (g := (mkF m 15 #[.val (.ref xarr), .val (.int (1 : Int32)), .val (.int (2 : Int32)), .val (.int v7), .val (.int v13), .unset, .unset, .unset, .unset] [])) rfl (hb hby own_d1_15)
  have in7 : ¬ (v7 < 0 ∨ cL.slots.size ≤ (v7).toNatClampNeg) := inb_of szcL hv7r
  obtain ⟨v20, hv20⟩ : ∃ w : Int32, w = (own_loT v7) := ⟨_, rfl⟩
  have pre8 : ∀ t, Steps p.tables e below (T6.setTop (mkF m 22 #[.val (.ref xarr), .val (.int (1 : Int32)), .val (.int (2 : Int32)), .val (.int v7), .val (.int v13), .val (.int v20), .unset, .unset, .unset] [])) t → Steps p.tables e below (s₁.setTop (entryFrame m #[(.ref xarr), (.int (1 : Int32)), (.int (2 : Int32))] 9)) t := by
    intro t k
    rw [hv20] at k
    refine pre5 _ ?_
    show Steps p.tables e below (T3.setTop (mkF m 15 #[.val (.ref xarr), .val (.int (1 : Int32)), .val (.int (2 : Int32)), .val (.int v7), .val (.int v13), .unset, .unset, .unset, .unset] [])) _
    refine st6 _ ?_
    show Steps p.tables e below (T6.setTop (mkF m 18 #[.val (.ref xarr), .val (.int (1 : Int32)), .val (.int (2 : Int32)), .val (.int v7), .val (.int v13), .unset, .unset, .unset, .unset] [(.ref wL)])) _
    refine XS.iloadN X6.here hx rfl (hb hby own_d1_18) rfl ?_
    show Steps p.tables e below (T6.setTop (mkF m 19 #[.val (.ref xarr), .val (.int (1 : Int32)), .val (.int (2 : Int32)), .val (.int v7), .val (.int v13), .unset, .unset, .unset, .unset] [(.int v7), (.ref wL)])) _
    refine X6.iaload hx (j := v7) (v := (.int (own_loT v7))) (by rw [e6]; exact R_wL.1) (State.isArrayOf_alike hZ.alike R_wL.2.1) R_wL.2.2 in7 (tacL _ in7) (g := (mkF m 19 #[.val (.ref xarr), .val (.int (1 : Int32)), .val (.int (2 : Int32)), .val (.int v7), .val (.int v13), .unset, .unset, .unset, .unset] [(.int v7), (.ref wL)])) rfl rfl (hb hby own_d1_19) _ ?_
    show Steps p.tables e below (T6.setTop (mkF m 20 #[.val (.ref xarr), .val (.int (1 : Int32)), .val (.int (2 : Int32)), .val (.int v7), .val (.int v13), .unset, .unset, .unset, .unset] [(.int (own_loT v7))])) _
    refine XS.istore X6.here hx rfl (hb hby own_d1_20) rfl (l' := #[.val (.ref xarr), .val (.int (1 : Int32)), .val (.int (2 : Int32)), .val (.int v7), .val (.int v13), .val (.int (own_loT v7)), .unset, .unset, .unset]) rfl ?_
    exact k
  obtain ⟨T9, X9, e9, st9⟩ := getS2 X6 hx hZ hown (host := "") (Or.inl (hw _ (List.mem_of_getElem? (i := 9) rfl))) Via.refl e6 S_SECOND_HIGHEST (g := (mkF m 22 #[.val (.ref xarr), .val (.int (1 : Int32)), .val (.int (2 : Int32)), .val (.int v7), .val (.int v13), .val (.int v20), .unset, .unset, .unset] [])) rfl (hb hby own_d1_22)
  have in10 : ¬ (v7 < 0 ∨ cH.slots.size ≤ (v7).toNatClampNeg) := inb_of szcH hv7r
  obtain ⟨v27, hv27⟩ : ∃ w : Int32, w = (own_hiT v7) := ⟨_, rfl⟩
  have pre11 : ∀ t, Steps p.tables e below (T9.setTop (mkF m 29 #[.val (.ref xarr), .val (.int (1 : Int32)), .val (.int (2 : Int32)), .val (.int v7), .val (.int v13), .val (.int v20), .val (.int v27), .unset, .unset] [])) t → Steps p.tables e below (s₁.setTop (entryFrame m #[(.ref xarr), (.int (1 : Int32)), (.int (2 : Int32))] 9)) t := by
    intro t k
    rw [hv27] at k
    refine pre8 _ ?_
    show Steps p.tables e below (T6.setTop (mkF m 22 #[.val (.ref xarr), .val (.int (1 : Int32)), .val (.int (2 : Int32)), .val (.int v7), .val (.int v13), .val (.int v20), .unset, .unset, .unset] [])) _
    refine st9 _ ?_
    show Steps p.tables e below (T9.setTop (mkF m 25 #[.val (.ref xarr), .val (.int (1 : Int32)), .val (.int (2 : Int32)), .val (.int v7), .val (.int v13), .val (.int v20), .unset, .unset, .unset] [(.ref wH)])) _
    refine XS.iloadN X9.here hx rfl (hb hby own_d1_25) rfl ?_
    show Steps p.tables e below (T9.setTop (mkF m 26 #[.val (.ref xarr), .val (.int (1 : Int32)), .val (.int (2 : Int32)), .val (.int v7), .val (.int v13), .val (.int v20), .unset, .unset, .unset] [(.int v7), (.ref wH)])) _
    refine X9.iaload hx (j := v7) (v := (.int (own_hiT v7))) (by rw [e9]; exact R_wH.1) (State.isArrayOf_alike hZ.alike R_wH.2.1) R_wH.2.2 in10 (tacH _ in10) (g := (mkF m 26 #[.val (.ref xarr), .val (.int (1 : Int32)), .val (.int (2 : Int32)), .val (.int v7), .val (.int v13), .val (.int v20), .unset, .unset, .unset] [(.int v7), (.ref wH)])) rfl rfl (hb hby own_d1_26) _ ?_
    show Steps p.tables e below (T9.setTop (mkF m 27 #[.val (.ref xarr), .val (.int (1 : Int32)), .val (.int (2 : Int32)), .val (.int v7), .val (.int v13), .val (.int v20), .unset, .unset, .unset] [(.int (own_hiT v7))])) _
    refine XS.istore X9.here hx rfl (hb hby own_d1_27) rfl (l' := #[.val (.ref xarr), .val (.int (1 : Int32)), .val (.int (2 : Int32)), .val (.int v7), .val (.int v13), .val (.int v20), .val (.int (own_hiT v7)), .unset, .unset]) rfl ?_
    exact k
  have pre12 : ∀ t, Steps p.tables e below (T9.setTop (mkF m 36 #[.val (.ref xarr), .val (.int (1 : Int32)), .val (.int (2 : Int32)), .val (.int v7), .val (.int v13), .val (.int v20), .val (.int v27), .val (.int (1 : Int32)), .unset] [(.int v13), (.int (1 : Int32))])) t → Steps p.tables e below (s₁.setTop (entryFrame m #[(.ref xarr), (.int (1 : Int32)), (.int (2 : Int32))] 9)) t := by
    intro t k
    refine pre11 _ ?_
    show Steps p.tables e below (T9.setTop (mkF m 29 #[.val (.ref xarr), .val (.int (1 : Int32)), .val (.int (2 : Int32)), .val (.int v7), .val (.int v13), .val (.int v20), .val (.int v27), .unset, .unset] [])) _
    refine XS.iconst X9.here hx rfl (hb hby own_d1_29) ?_
    show Steps p.tables e below (T9.setTop (mkF m 30 #[.val (.ref xarr), .val (.int (1 : Int32)), .val (.int (2 : Int32)), .val (.int v7), .val (.int v13), .val (.int v20), .val (.int v27), .unset, .unset] [(.int (1 : Int32))])) _
    refine XS.istore X9.here hx rfl (hb hby own_d1_30) rfl (l' := #[.val (.ref xarr), .val (.int (1 : Int32)), .val (.int (2 : Int32)), .val (.int v7), .val (.int v13), .val (.int v20), .val (.int v27), .val (.int (1 : Int32)), .unset]) rfl ?_
    show Steps p.tables e below (T9.setTop (mkF m 32 #[.val (.ref xarr), .val (.int (1 : Int32)), .val (.int (2 : Int32)), .val (.int v7), .val (.int v13), .val (.int v20), .val (.int v27), .val (.int (1 : Int32)), .unset] [])) _
    refine XS.iload X9.here hx rfl (hb hby own_d1_32) rfl ?_
    show Steps p.tables e below (T9.setTop (mkF m 34 #[.val (.ref xarr), .val (.int (1 : Int32)), .val (.int (2 : Int32)), .val (.int v7), .val (.int v13), .val (.int v20), .val (.int v27), .val (.int (1 : Int32)), .unset] [(.int (1 : Int32))])) _
    refine XS.iload X9.here hx rfl (hb hby own_d1_34) rfl ?_
    exact k
  by_cases hc36 : (1 : Int32) < v13
  · obtain ⟨fs, hr, hrun, hended, hW, hsame⟩ := X9.leave (v := some (.int (0 : Int32))) (fun h => by rw [Bd.returns] at h; cases h)
    have ev13 : (own_cs 1 (z1 &&& (255 : Int32)) (z2 &&& (255 : Int32)) (z3 &&& (255 : Int32)) (z4 &&& (255 : Int32))) = (0 : Int32) := by
      have hq := hv13
      simp only [own_cs, own_g2, own_g3, own_g4, ← hv7, ← hv13, ← hv20, ← hv27]
      simp [hc36]
    refine ⟨_, _, pre12 _ ?_, hrun, hended, _, _, rfl, ?_, ⟨_, rfl⟩, hW, hsame.mono (by decide) (by decide)⟩
    · show Steps p.tables e below (T9.setTop (mkF m 36 #[.val (.ref xarr), .val (.int (1 : Int32)), .val (.int (2 : Int32)), .val (.int v7), .val (.int v13), .val (.int v20), .val (.int v27), .val (.int (1 : Int32)), .unset] [(.int v13), (.int (1 : Int32))])) _
      refine XS.icmpNo X9.here hx rfl (hb hby own_d1_36) rfl (tlt hc36).2.1 ?_
      show Steps p.tables e below (T9.setTop (mkF m 39 #[.val (.ref xarr), .val (.int (1 : Int32)), .val (.int (2 : Int32)), .val (.int v7), .val (.int v13), .val (.int v20), .val (.int v27), .val (.int (1 : Int32)), .unset] [])) _
      refine XS.iloadN X9.here hx rfl (hb hby own_d1_39) rfl ?_
      show Steps p.tables e below (T9.setTop (mkF m 40 #[.val (.ref xarr), .val (.int (1 : Int32)), .val (.int (2 : Int32)), .val (.int v7), .val (.int v13), .val (.int v20), .val (.int v27), .val (.int (1 : Int32)), .unset] [(.int (1 : Int32))])) _
      refine XS.iload X9.here hx rfl (hb hby own_d1_40) rfl ?_
      show Steps p.tables e below (T9.setTop (mkF m 42 #[.val (.ref xarr), .val (.int (1 : Int32)), .val (.int (2 : Int32)), .val (.int v7), .val (.int v13), .val (.int v20), .val (.int v27), .val (.int (1 : Int32)), .unset] [(.int (1 : Int32)), (.int (1 : Int32))])) _
      refine XS.iadd X9.here hx rfl (hb hby own_d1_42) rfl ?_
      show Steps p.tables e below (T9.setTop (mkF m 43 #[.val (.ref xarr), .val (.int (1 : Int32)), .val (.int (2 : Int32)), .val (.int v7), .val (.int v13), .val (.int v20), .val (.int v27), .val (.int (1 : Int32)), .unset] [(.int (2 : Int32))])) _
      refine XS.iloadN X9.here hx rfl (hb hby own_d1_43) rfl ?_
      show Steps p.tables e below (T9.setTop (mkF m 44 #[.val (.ref xarr), .val (.int (1 : Int32)), .val (.int (2 : Int32)), .val (.int v7), .val (.int v13), .val (.int v20), .val (.int v27), .val (.int (1 : Int32)), .unset] [(.int (2 : Int32)), (.int (2 : Int32))])) _
      refine XS.icmpNo X9.here hx rfl (hb hby own_d1_44) rfl (teq rfl).2 ?_
      show Steps p.tables e below (T9.setTop (mkF m 47 #[.val (.ref xarr), .val (.int (1 : Int32)), .val (.int (2 : Int32)), .val (.int v7), .val (.int v13), .val (.int v20), .val (.int v27), .val (.int (1 : Int32)), .unset] [])) _
      refine XS.iconst X9.here hx rfl (hb hby own_d1_47) ?_
      show Steps p.tables e below (T9.setTop (mkF m 48 #[.val (.ref xarr), .val (.int (1 : Int32)), .val (.int (2 : Int32)), .val (.int v7), .val (.int v13), .val (.int v20), .val (.int v27), .val (.int (1 : Int32)), .unset] [(.int (0 : Int32))])) _
      exact retI X9 hx Bd.returns (hb hby own_d1_48) hr
    · show own_Q1_1_1 Z xarr xk z0 z1 z2 z3 z4 wS cS wL cL wH cH h0 n0 _ T9.heap _
      rw [e9]
      exact ⟨(by rw [ev13]), N0, rfl⟩
  · obtain ⟨fs, hr, hrun, hended, hW, hsame⟩ := X9.leave (v := some (.int v13)) (fun h => by rw [Bd.returns] at h; cases h)
    have ev14 : (own_cs 1 (z1 &&& (255 : Int32)) (z2 &&& (255 : Int32)) (z3 &&& (255 : Int32)) (z4 &&& (255 : Int32))) = v13 := by
      have hq := hv13
      simp only [own_cs, own_g2, own_g3, own_g4, ← hv7, ← hv13, ← hv20, ← hv27]
      simp [hc36]
    refine ⟨_, _, pre12 _ ?_, hrun, hended, _, _, rfl, ?_, ⟨_, rfl⟩, hW, hsame.mono (by decide) (by decide)⟩
    · show Steps p.tables e below (T9.setTop (mkF m 36 #[.val (.ref xarr), .val (.int (1 : Int32)), .val (.int (2 : Int32)), .val (.int v7), .val (.int v13), .val (.int v20), .val (.int v27), .val (.int (1 : Int32)), .unset] [(.int v13), (.int (1 : Int32))])) _
      refine XS.icmpYes X9.here hx rfl (pc0 := 36) (pc' := 93) rfl (hb hby own_d1_36) rfl (flt hc36).2.1 (by decide) (by decide) ?_
      show Steps p.tables e below (T9.setTop (mkF m 93 #[.val (.ref xarr), .val (.int (1 : Int32)), .val (.int (2 : Int32)), .val (.int v7), .val (.int v13), .val (.int v20), .val (.int v27), .val (.int (1 : Int32)), .unset] [])) _
      refine XS.iload X9.here hx rfl (hb hby own_d1_93) rfl ?_
      show Steps p.tables e below (T9.setTop (mkF m 95 #[.val (.ref xarr), .val (.int (1 : Int32)), .val (.int (2 : Int32)), .val (.int v7), .val (.int v13), .val (.int v20), .val (.int v27), .val (.int (1 : Int32)), .unset] [(.int v13)])) _
      exact retI X9 hx Bd.returns (hb hby own_d1_95) hr
    · show own_Q1_1_1 Z xarr xk z0 z1 z2 z3 z4 wS cS wL cL wH cH h0 n0 _ T9.heap _
      rw [e9]
      exact ⟨(by rw [ev14]), N0, rfl⟩
def own_Q1_1_2 (Z : State) (xarr : Addr) (xk : ClassId) (z0 : Int32) (z1 : Int32) (z2 : Int32) (z3 : Int32) (z4 : Int32) (wS : Addr) (cS : Cell) (wL : Addr) (cL : Cell) (wH : Addr) (cH : Cell) (h0 : Heap) (n0 : Nat) (v : Option Value) (h : Heap) (L : List Loc) : Prop := v = some (.int (own_cs 2 (z1 &&& (255 : Int32)) (z2 &&& (255 : Int32)) (z3 &&& (255 : Int32)) (z4 &&& (255 : Int32)))) ∧ Fr n0 L ∧ h = h0
theorem own_ef1_1_2 (m : MethodId) (xarr : Addr) : entryFrame m #[(.ref xarr), (.int (1 : Int32)), (.int (3 : Int32))] 9 = mkF m 0 #[.val (.ref xarr), .val (.int (1 : Int32)), .val (.int (3 : Int32)), .unset, .unset, .unset, .unset, .unset, .unset] [] := by first | (simp [entryFrame, mkF, argsToLocals, Value.category]; done) | rfl
set_option maxRecDepth 65536 in
set_option maxHeartbeats 40000000 in
theorem own_rm1_1_2 (l : Launch) (Z : State) (a0 : Array Value) (hw : ∀ d ∈ tables_1, d.before a0 Z = true) (ws : List Jvm.Cond) (xarr : Addr) (xk : ClassId) (z0 : Int32) (z1 : Int32) (z2 : Int32) (z3 : Int32) (z4 : Int32) (wS : Addr) (cS : Cell) (wL : Addr) (cL : Cell) (wH : Addr) (cH : Cell) (h0 : Heap) (n0 : Nat) (Z0 : n0 ≤ h0.size) (A_xarr : Arv Z h0 xarr xk .byte (5 : Int32) [(.int z0), (.int z1), (.int z2), (.int z3), (.int z4)] (.int (0 : Int32))) (S_SIZES : Sta Z h0 "com/example/stratafile/stratafile/io/Utf8" "SIZES" "[B" (.ref wS)) (R_wS : Arr Z h0 wS cS .byte) (S_SECOND_LOWEST : Sta Z h0 "com/example/stratafile/stratafile/io/Utf8" "SECOND_LOWEST" "[I" (.ref wL)) (R_wL : Arr Z h0 wL cL .int) (S_SECOND_HIGHEST : Sta Z h0 "com/example/stratafile/stratafile/io/Utf8" "SECOND_HIGHEST" "[I" (.ref wH)) (R_wH : Arr Z h0 wH cH .int) (szcS : cS.slots.size = (256 : Int32).toNatClampNeg) (tacS : ∀ j : Int32, ¬ (j < 0 ∨ cS.slots.size ≤ j.toNatClampNeg) → cS.slots[j.toNatClampNeg]? = some (.int (own_szT j))) (szcL : cL.slots.size = (256 : Int32).toNatClampNeg) (tacL : ∀ j : Int32, ¬ (j < 0 ∨ cL.slots.size ≤ j.toNatClampNeg) → cL.slots[j.toNatClampNeg]? = some (.int (own_loT j))) (szcH : cH.slots.size = (256 : Int32).toNatClampNeg) (tacH : ∀ j : Int32, ¬ (j < 0 ∨ cH.slots.size ≤ j.toNatClampNeg) → cH.slots[j.toNatClampNeg]? = some (.int (own_hiT j))) :
    MetFree l (⟨"com/example/stratafile/stratafile/io/Utf8", "characterSize", "([BII)I"⟩ : MethodName) (head1 (Jvm.Cond.code (⟨"com/example/stratafile/stratafile/io/Utf8", "characterSize", "([BII)I"⟩ : MethodName) prog_115_method_3_code 9 (some .int) :: ws) ({ frames := 0, cells := 0, slots := 0, locals := 0 } : Room)) (fun a U => a = #[(.ref xarr), (.int (1 : Int32)), (.int (3 : Int32))] ∧ Z.Warmed39 U.vm ∧ U.heap = h0) (fun _ _ _ _ _ => True) (fun _ U o U' => ∃ v L, o = .returned v ∧ own_Q1_1_2 Z xarr xk z0 z1 z2 z3 z4 wS cS wL cL wH cH h0 n0 v U'.heap L ∧ FrameEnd U o U' L ({ frames := 0, cells := 0, slots := 0, locals := 0 } : Room).cells ({ frames := 0, cells := 0, slots := 0, locals := 0 } : Room).slots) := by
  refine MetFree.of_bodySF (plainFor_of_name own_pn1) hisR ?_
  intro p e s m args below meth c s₁ Bd hml0 hP hK
  obtain ⟨rfl, hZ, hh⟩ := hP
  have hx := Bd.exec
  have hby := Bd.bytes
  have hml : c.maxLocals = 9 := hml0
  have hown : s.vm.findClass "com/example/stratafile/stratafile/io/Utf8" = some m.cls := findClass_of_methodNamed Bd.named
  have hnm := (name_of_methodNamed Bd.named Bd.method).1
  have X0 : Stand p l e ({ frames := 0, cells := 0, slots := 0, locals := 0 } : Room) s m #[(.ref xarr), (.int (1 : Int32)), (.int (3 : Int32))] below meth c s₁ [] 0 0 := Stand.of_body Bd
  have e0 : s₁.heap = h0 := by rw [← hh, Bd.state]; rfl
  have N0 := Fr.nil n0
  have pre0 : ∀ t, Steps p.tables e below (s₁.setTop (mkF m 0 #[.val (.ref xarr), .val (.int (1 : Int32)), .val (.int (3 : Int32)), .unset, .unset, .unset, .unset, .unset, .unset] [])) t → Steps p.tables e below (s₁.setTop (entryFrame m #[(.ref xarr), (.int (1 : Int32)), (.int (3 : Int32))] 9)) t := fun t k => castTop (own_ef1_1_2 m xarr) k
  obtain ⟨cl1, Ar1, q1, S1, M1, H1, G1⟩ := id A_xarr
  have in1 := inb_of S1 (j := (1 : Int32)) ⟨by decide, by decide⟩
  obtain ⟨v7, hv7⟩ : ∃ w : Int32, w = (z1 &&& (255 : Int32)) := ⟨_, rfl⟩
  have pre2 : ∀ t, Steps p.tables e below (s₁.setTop (mkF m 8 #[.val (.ref xarr), .val (.int (1 : Int32)), .val (.int (3 : Int32)), .val (.int v7), .unset, .unset, .unset, .unset, .unset] [])) t → Steps p.tables e below (s₁.setTop (entryFrame m #[(.ref xarr), (.int (1 : Int32)), (.int (3 : Int32))] 9)) t := by
    intro t k
    rw [hv7] at k
    refine pre0 _ ?_
    show Steps p.tables e below (s₁.setTop (mkF m 0 #[.val (.ref xarr), .val (.int (1 : Int32)), .val (.int (3 : Int32)), .unset, .unset, .unset, .unset, .unset, .unset] [])) _
    refine XS.aloadN X0.here hx rfl (hb hby own_d1_0) rfl rfl ?_
    show Steps p.tables e below (s₁.setTop (mkF m 1 #[.val (.ref xarr), .val (.int (1 : Int32)), .val (.int (3 : Int32)), .unset, .unset, .unset, .unset, .unset, .unset] [(.ref xarr)])) _
    refine XS.iloadN X0.here hx rfl (hb hby own_d1_1) rfl ?_
    show Steps p.tables e below (s₁.setTop (mkF m 2 #[.val (.ref xarr), .val (.int (1 : Int32)), .val (.int (3 : Int32)), .unset, .unset, .unset, .unset, .unset, .unset] [(.int (1 : Int32)), (.ref xarr)])) _
    refine X0.baloadBytes hx (j := (1 : Int32)) (v := (.int z1)) (by rw [e0]; exact Ar1.1) (State.isArrayOf_alike hZ.alike Ar1.2.1) Ar1.2.2 in1 (H1.at in1 rfl) (g := (mkF m 2 #[.val (.ref xarr), .val (.int (1 : Int32)), .val (.int (3 : Int32)), .unset, .unset, .unset, .unset, .unset, .unset] [(.int (1 : Int32)), (.ref xarr)])) rfl rfl (hb hby own_d1_2) _ ?_
    show Steps p.tables e below (s₁.setTop (mkF m 3 #[.val (.ref xarr), .val (.int (1 : Int32)), .val (.int (3 : Int32)), .unset, .unset, .unset, .unset, .unset, .unset] [(.int z1)])) _
    refine XS.sipush X0.here hx rfl (hb hby own_d1_3) ?_
    show Steps p.tables e below (s₁.setTop (mkF m 6 #[.val (.ref xarr), .val (.int (1 : Int32)), .val (.int (3 : Int32)), .unset, .unset, .unset, .unset, .unset, .unset] [(.int (255 : Int32)), (.int z1)])) _
    refine XS.iand X0.here hx rfl (hb hby own_d1_6) rfl ?_
    show Steps p.tables e below (s₁.setTop (mkF m 7 #[.val (.ref xarr), .val (.int (1 : Int32)), .val (.int (3 : Int32)), .unset, .unset, .unset, .unset, .unset, .unset] [(.int (z1 &&& (255 : Int32)))])) _
    refine XS.istoreN X0.here hx rfl (hb hby own_d1_7) rfl (l' := #[.val (.ref xarr), .val (.int (1 : Int32)), .val (.int (3 : Int32)), .val (.int (z1 &&& (255 : Int32))), .unset, .unset, .unset, .unset, .unset]) rfl ?_
    exact k
  have hv7r : ¬ v7 < 0 ∧ v7 < (256 : Int32) := by rw [hv7]; exact own_b255 _
  obtain ⟨T3, X3, e3, st3⟩ := getS2 X0 hx hZ hown (host := "") (Or.inl (hw _ (List.mem_of_getElem? (i := 5) rfl))) Via.refl e0 S_SIZES (g := (mkF m 8 #[.val (.ref xarr), .val (.int (1 : Int32)), .val (.int (3 : Int32)), .val (.int v7), .unset, .unset, .unset, .unset, .unset] [])) rfl (hb hby own_d1_8)
  have in4 : ¬ (v7 < 0 ∨ cS.slots.size ≤ (v7).toNatClampNeg) := inb_of szcS hv7r
  obtain ⟨v13, hv13⟩ : ∃ w : Int32, w = (own_szT v7) := ⟨_, rfl⟩
  have pre5 : ∀ t, Steps p.tables e below (T3.setTop (mkF m 15 #[.val (.ref xarr), .val (.int (1 : Int32)), .val (.int (3 : Int32)), .val (.int v7), .val (.int v13), .unset, .unset, .unset, .unset] [])) t → Steps p.tables e below (s₁.setTop (entryFrame m #[(.ref xarr), (.int (1 : Int32)), (.int (3 : Int32))] 9)) t := by
    intro t k
    rw [hv13] at k
    refine pre2 _ ?_
    show Steps p.tables e below (s₁.setTop (mkF m 8 #[.val (.ref xarr), .val (.int (1 : Int32)), .val (.int (3 : Int32)), .val (.int v7), .unset, .unset, .unset, .unset, .unset] [])) _
    refine st3 _ ?_
    show Steps p.tables e below (T3.setTop (mkF m 11 #[.val (.ref xarr), .val (.int (1 : Int32)), .val (.int (3 : Int32)), .val (.int v7), .unset, .unset, .unset, .unset, .unset] [(.ref wS)])) _
    refine XS.iloadN X3.here hx rfl (hb hby own_d1_11) rfl ?_
    show Steps p.tables e below (T3.setTop (mkF m 12 #[.val (.ref xarr), .val (.int (1 : Int32)), .val (.int (3 : Int32)), .val (.int v7), .unset, .unset, .unset, .unset, .unset] [(.int v7), (.ref wS)])) _
    refine X3.baloadBytes hx (j := v7) (v := (.int (own_szT v7))) (by rw [e3]; exact R_wS.1) (State.isArrayOf_alike hZ.alike R_wS.2.1) R_wS.2.2 in4 (tacS _ in4) (g := (mkF m 12 #[.val (.ref xarr), .val (.int (1 : Int32)), .val (.int (3 : Int32)), .val (.int v7), .unset, .unset, .unset, .unset, .unset] [(.int v7), (.ref wS)])) rfl rfl (hb hby own_d1_12) _ ?_
    show Steps p.tables e below (T3.setTop (mkF m 13 #[.val (.ref xarr), .val (.int (1 : Int32)), .val (.int (3 : Int32)), .val (.int v7), .unset, .unset, .unset, .unset, .unset] [(.int (own_szT v7))])) _
    refine XS.istore X3.here hx rfl (hb hby own_d1_13) rfl (l' := #[.val (.ref xarr), .val (.int (1 : Int32)), .val (.int (3 : Int32)), .val (.int v7), .val (.int (own_szT v7)), .unset, .unset, .unset, .unset]) rfl ?_
    exact k
  obtain ⟨T6, X6, e6, st6⟩ := getS2 X3 hx hZ hown (host := "") (Or.inl (hw _ (List.mem_of_getElem? (i := 7) rfl))) Via.refl e3 S_SECOND_LOWEST (g := (mkF m 15 #[.val (.ref xarr), .val (.int (1 : Int32)), .val (.int (3 : Int32)), .val (.int v7), .val (.int v13), .unset, .unset, .unset, .unset] [])) rfl (hb hby own_d1_15)
  have in7 : ¬ (v7 < 0 ∨ cL.slots.size ≤ (v7).toNatClampNeg) := inb_of szcL hv7r
  obtain ⟨v20, hv20⟩ : ∃ w : Int32, w = (own_loT v7) := ⟨_, rfl⟩
  have pre8 : ∀ t, Steps p.tables e below (T6.setTop (mkF m 22 #[.val (.ref xarr), .val (.int (1 : Int32)), .val (.int (3 : Int32)), .val (.int v7), .val (.int v13), .val (.int v20), .unset, .unset, .unset] [])) t → Steps p.tables e below (s₁.setTop (entryFrame m #[(.ref xarr), (.int (1 : Int32)), (.int (3 : Int32))] 9)) t := by
    intro t k
    rw [hv20] at k
    refine pre5 _ ?_
    show Steps p.tables e below (T3.setTop (mkF m 15 #[.val (.ref xarr), .val (.int (1 : Int32)), .val (.int (3 : Int32)), .val (.int v7), .val (.int v13), .unset, .unset, .unset, .unset] [])) _
    refine st6 _ ?_
    show Steps p.tables e below (T6.setTop (mkF m 18 #[.val (.ref xarr), .val (.int (1 : Int32)), .val (.int (3 : Int32)), .val (.int v7), .val (.int v13), .unset, .unset, .unset, .unset] [(.ref wL)])) _
    refine XS.iloadN X6.here hx rfl (hb hby own_d1_18) rfl ?_
    show Steps p.tables e below (T6.setTop (mkF m 19 #[.val (.ref xarr), .val (.int (1 : Int32)), .val (.int (3 : Int32)), .val (.int v7), .val (.int v13), .unset, .unset, .unset, .unset] [(.int v7), (.ref wL)])) _
    refine X6.iaload hx (j := v7) (v := (.int (own_loT v7))) (by rw [e6]; exact R_wL.1) (State.isArrayOf_alike hZ.alike R_wL.2.1) R_wL.2.2 in7 (tacL _ in7) (g := (mkF m 19 #[.val (.ref xarr), .val (.int (1 : Int32)), .val (.int (3 : Int32)), .val (.int v7), .val (.int v13), .unset, .unset, .unset, .unset] [(.int v7), (.ref wL)])) rfl rfl (hb hby own_d1_19) _ ?_
    show Steps p.tables e below (T6.setTop (mkF m 20 #[.val (.ref xarr), .val (.int (1 : Int32)), .val (.int (3 : Int32)), .val (.int v7), .val (.int v13), .unset, .unset, .unset, .unset] [(.int (own_loT v7))])) _
    refine XS.istore X6.here hx rfl (hb hby own_d1_20) rfl (l' := #[.val (.ref xarr), .val (.int (1 : Int32)), .val (.int (3 : Int32)), .val (.int v7), .val (.int v13), .val (.int (own_loT v7)), .unset, .unset, .unset]) rfl ?_
    exact k
  obtain ⟨T9, X9, e9, st9⟩ := getS2 X6 hx hZ hown (host := "") (Or.inl (hw _ (List.mem_of_getElem? (i := 9) rfl))) Via.refl e6 S_SECOND_HIGHEST (g := (mkF m 22 #[.val (.ref xarr), .val (.int (1 : Int32)), .val (.int (3 : Int32)), .val (.int v7), .val (.int v13), .val (.int v20), .unset, .unset, .unset] [])) rfl (hb hby own_d1_22)
  have in10 : ¬ (v7 < 0 ∨ cH.slots.size ≤ (v7).toNatClampNeg) := inb_of szcH hv7r
  obtain ⟨v27, hv27⟩ : ∃ w : Int32, w = (own_hiT v7) := ⟨_, rfl⟩
  have pre11 : ∀ t, Steps p.tables e below (T9.setTop (mkF m 29 #[.val (.ref xarr), .val (.int (1 : Int32)), .val (.int (3 : Int32)), .val (.int v7), .val (.int v13), .val (.int v20), .val (.int v27), .unset, .unset] [])) t → Steps p.tables e below (s₁.setTop (entryFrame m #[(.ref xarr), (.int (1 : Int32)), (.int (3 : Int32))] 9)) t := by
    intro t k
    rw [hv27] at k
    refine pre8 _ ?_
    show Steps p.tables e below (T6.setTop (mkF m 22 #[.val (.ref xarr), .val (.int (1 : Int32)), .val (.int (3 : Int32)), .val (.int v7), .val (.int v13), .val (.int v20), .unset, .unset, .unset] [])) _
    refine st9 _ ?_
    show Steps p.tables e below (T9.setTop (mkF m 25 #[.val (.ref xarr), .val (.int (1 : Int32)), .val (.int (3 : Int32)), .val (.int v7), .val (.int v13), .val (.int v20), .unset, .unset, .unset] [(.ref wH)])) _
    refine XS.iloadN X9.here hx rfl (hb hby own_d1_25) rfl ?_
    show Steps p.tables e below (T9.setTop (mkF m 26 #[.val (.ref xarr), .val (.int (1 : Int32)), .val (.int (3 : Int32)), .val (.int v7), .val (.int v13), .val (.int v20), .unset, .unset, .unset] [(.int v7), (.ref wH)])) _
    refine X9.iaload hx (j := v7) (v := (.int (own_hiT v7))) (by rw [e9]; exact R_wH.1) (State.isArrayOf_alike hZ.alike R_wH.2.1) R_wH.2.2 in10 (tacH _ in10) (g := (mkF m 26 #[.val (.ref xarr), .val (.int (1 : Int32)), .val (.int (3 : Int32)), .val (.int v7), .val (.int v13), .val (.int v20), .unset, .unset, .unset] [(.int v7), (.ref wH)])) rfl rfl (hb hby own_d1_26) _ ?_
    show Steps p.tables e below (T9.setTop (mkF m 27 #[.val (.ref xarr), .val (.int (1 : Int32)), .val (.int (3 : Int32)), .val (.int v7), .val (.int v13), .val (.int v20), .unset, .unset, .unset] [(.int (own_hiT v7))])) _
    refine XS.istore X9.here hx rfl (hb hby own_d1_27) rfl (l' := #[.val (.ref xarr), .val (.int (1 : Int32)), .val (.int (3 : Int32)), .val (.int v7), .val (.int v13), .val (.int v20), .val (.int (own_hiT v7)), .unset, .unset]) rfl ?_
    exact k
  have pre12 : ∀ t, Steps p.tables e below (T9.setTop (mkF m 36 #[.val (.ref xarr), .val (.int (1 : Int32)), .val (.int (3 : Int32)), .val (.int v7), .val (.int v13), .val (.int v20), .val (.int v27), .val (.int (1 : Int32)), .unset] [(.int v13), (.int (1 : Int32))])) t → Steps p.tables e below (s₁.setTop (entryFrame m #[(.ref xarr), (.int (1 : Int32)), (.int (3 : Int32))] 9)) t := by
    intro t k
    refine pre11 _ ?_
    show Steps p.tables e below (T9.setTop (mkF m 29 #[.val (.ref xarr), .val (.int (1 : Int32)), .val (.int (3 : Int32)), .val (.int v7), .val (.int v13), .val (.int v20), .val (.int v27), .unset, .unset] [])) _
    refine XS.iconst X9.here hx rfl (hb hby own_d1_29) ?_
    show Steps p.tables e below (T9.setTop (mkF m 30 #[.val (.ref xarr), .val (.int (1 : Int32)), .val (.int (3 : Int32)), .val (.int v7), .val (.int v13), .val (.int v20), .val (.int v27), .unset, .unset] [(.int (1 : Int32))])) _
    refine XS.istore X9.here hx rfl (hb hby own_d1_30) rfl (l' := #[.val (.ref xarr), .val (.int (1 : Int32)), .val (.int (3 : Int32)), .val (.int v7), .val (.int v13), .val (.int v20), .val (.int v27), .val (.int (1 : Int32)), .unset]) rfl ?_
    show Steps p.tables e below (T9.setTop (mkF m 32 #[.val (.ref xarr), .val (.int (1 : Int32)), .val (.int (3 : Int32)), .val (.int v7), .val (.int v13), .val (.int v20), .val (.int v27), .val (.int (1 : Int32)), .unset] [])) _
    refine XS.iload X9.here hx rfl (hb hby own_d1_32) rfl ?_
    show Steps p.tables e below (T9.setTop (mkF m 34 #[.val (.ref xarr), .val (.int (1 : Int32)), .val (.int (3 : Int32)), .val (.int v7), .val (.int v13), .val (.int v20), .val (.int v27), .val (.int (1 : Int32)), .unset] [(.int (1 : Int32))])) _
    refine XS.iload X9.here hx rfl (hb hby own_d1_34) rfl ?_
    exact k
  by_cases hc36 : (1 : Int32) < v13
  · have hd13 : ¬ ((2 : Int32) = (3 : Int32)) := (by decide)
    obtain ⟨cl14, Ar14, q14, S14, M14, H14, G14⟩ := id A_xarr
    have in14 := inb_of S14 (j := (2 : Int32)) ⟨by decide, by decide⟩
    obtain ⟨v59, hv59⟩ : ∃ w : Int32, w = (z2 &&& (255 : Int32)) := ⟨_, rfl⟩
    have pre15 : ∀ t, Steps p.tables e below (T9.setTop (mkF m 61 #[.val (.ref xarr), .val (.int (1 : Int32)), .val (.int (3 : Int32)), .val (.int v7), .val (.int v13), .val (.int v20), .val (.int v27), .val (.int (1 : Int32)), .val (.int v59)] [])) t → Steps p.tables e below (s₁.setTop (entryFrame m #[(.ref xarr), (.int (1 : Int32)), (.int (3 : Int32))] 9)) t := by
      intro t k
      rw [hv59] at k
      refine pre12 _ ?_
      show Steps p.tables e below (T9.setTop (mkF m 36 #[.val (.ref xarr), .val (.int (1 : Int32)), .val (.int (3 : Int32)), .val (.int v7), .val (.int v13), .val (.int v20), .val (.int v27), .val (.int (1 : Int32)), .unset] [(.int v13), (.int (1 : Int32))])) _
      refine XS.icmpNo X9.here hx rfl (hb hby own_d1_36) rfl (tlt hc36).2.1 ?_
      show Steps p.tables e below (T9.setTop (mkF m 39 #[.val (.ref xarr), .val (.int (1 : Int32)), .val (.int (3 : Int32)), .val (.int v7), .val (.int v13), .val (.int v20), .val (.int v27), .val (.int (1 : Int32)), .unset] [])) _
      refine XS.iloadN X9.here hx rfl (hb hby own_d1_39) rfl ?_
      show Steps p.tables e below (T9.setTop (mkF m 40 #[.val (.ref xarr), .val (.int (1 : Int32)), .val (.int (3 : Int32)), .val (.int v7), .val (.int v13), .val (.int v20), .val (.int v27), .val (.int (1 : Int32)), .unset] [(.int (1 : Int32))])) _
      refine XS.iload X9.here hx rfl (hb hby own_d1_40) rfl ?_
      show Steps p.tables e below (T9.setTop (mkF m 42 #[.val (.ref xarr), .val (.int (1 : Int32)), .val (.int (3 : Int32)), .val (.int v7), .val (.int v13), .val (.int v20), .val (.int v27), .val (.int (1 : Int32)), .unset] [(.int (1 : Int32)), (.int (1 : Int32))])) _
      refine XS.iadd X9.here hx rfl (hb hby own_d1_42) rfl ?_
      show Steps p.tables e below (T9.setTop (mkF m 43 #[.val (.ref xarr), .val (.int (1 : Int32)), .val (.int (3 : Int32)), .val (.int v7), .val (.int v13), .val (.int v20), .val (.int v27), .val (.int (1 : Int32)), .unset] [(.int (2 : Int32))])) _
      refine XS.iloadN X9.here hx rfl (hb hby own_d1_43) rfl ?_
      show Steps p.tables e below (T9.setTop (mkF m 44 #[.val (.ref xarr), .val (.int (1 : Int32)), .val (.int (3 : Int32)), .val (.int v7), .val (.int v13), .val (.int v20), .val (.int v27), .val (.int (1 : Int32)), .unset] [(.int (3 : Int32)), (.int (2 : Int32))])) _
      refine XS.icmpYes X9.here hx rfl (pc0 := 44) (pc' := 49) rfl (hb hby own_d1_44) rfl (feq hd13).2 (by decide) (by decide) ?_
      show Steps p.tables e below (T9.setTop (mkF m 49 #[.val (.ref xarr), .val (.int (1 : Int32)), .val (.int (3 : Int32)), .val (.int v7), .val (.int v13), .val (.int v20), .val (.int v27), .val (.int (1 : Int32)), .unset] [])) _
      refine XS.aloadN X9.here hx rfl (hb hby own_d1_49) rfl rfl ?_
      show Steps p.tables e below (T9.setTop (mkF m 50 #[.val (.ref xarr), .val (.int (1 : Int32)), .val (.int (3 : Int32)), .val (.int v7), .val (.int v13), .val (.int v20), .val (.int v27), .val (.int (1 : Int32)), .unset] [(.ref xarr)])) _
      refine XS.iloadN X9.here hx rfl (hb hby own_d1_50) rfl ?_
      show Steps p.tables e below (T9.setTop (mkF m 51 #[.val (.ref xarr), .val (.int (1 : Int32)), .val (.int (3 : Int32)), .val (.int v7), .val (.int v13), .val (.int v20), .val (.int v27), .val (.int (1 : Int32)), .unset] [(.int (1 : Int32)), (.ref xarr)])) _
      refine XS.iload X9.here hx rfl (hb hby own_d1_51) rfl ?_
      show Steps p.tables e below (T9.setTop (mkF m 53 #[.val (.ref xarr), .val (.int (1 : Int32)), .val (.int (3 : Int32)), .val (.int v7), .val (.int v13), .val (.int v20), .val (.int v27), .val (.int (1 : Int32)), .unset] [(.int (1 : Int32)), (.int (1 : Int32)), (.ref xarr)])) _
      refine XS.iadd X9.here hx rfl (hb hby own_d1_53) rfl ?_
      show Steps p.tables e below (T9.setTop (mkF m 54 #[.val (.ref xarr), .val (.int (1 : Int32)), .val (.int (3 : Int32)), .val (.int v7), .val (.int v13), .val (.int v20), .val (.int v27), .val (.int (1 : Int32)), .unset] [(.int (2 : Int32)), (.ref xarr)])) _
      refine X9.baloadBytes hx (j := (2 : Int32)) (v := (.int z2)) (by rw [e9]; exact Ar14.1) (State.isArrayOf_alike hZ.alike Ar14.2.1) Ar14.2.2 in14 (H14.at in14 rfl) (g := (mkF m 54 #[.val (.ref xarr), .val (.int (1 : Int32)), .val (.int (3 : Int32)), .val (.int v7), .val (.int v13), .val (.int v20), .val (.int v27), .val (.int (1 : Int32)), .unset] [(.int (2 : Int32)), (.ref xarr)])) rfl rfl (hb hby own_d1_54) _ ?_
      show Steps p.tables e below (T9.setTop (mkF m 55 #[.val (.ref xarr), .val (.int (1 : Int32)), .val (.int (3 : Int32)), .val (.int v7), .val (.int v13), .val (.int v20), .val (.int v27), .val (.int (1 : Int32)), .unset] [(.int z2)])) _
      refine XS.sipush X9.here hx rfl (hb hby own_d1_55) ?_
      show Steps p.tables e below (T9.setTop (mkF m 58 #[.val (.ref xarr), .val (.int (1 : Int32)), .val (.int (3 : Int32)), .val (.int v7), .val (.int v13), .val (.int v20), .val (.int v27), .val (.int (1 : Int32)), .unset] [(.int (255 : Int32)), (.int z2)])) _
      refine XS.iand X9.here hx rfl (hb hby own_d1_58) rfl ?_
      show Steps p.tables e below (T9.setTop (mkF m 59 #[.val (.ref xarr), .val (.int (1 : Int32)), .val (.int (3 : Int32)), .val (.int v7), .val (.int v13), .val (.int v20), .val (.int v27), .val (.int (1 : Int32)), .unset] [(.int (z2 &&& (255 : Int32)))])) _
      refine XS.istore X9.here hx rfl (hb hby own_d1_59) rfl (l' := #[.val (.ref xarr), .val (.int (1 : Int32)), .val (.int (3 : Int32)), .val (.int v7), .val (.int v13), .val (.int v20), .val (.int v27), .val (.int (1 : Int32)), .val (.int (z2 &&& (255 : Int32)))]) rfl ?_
      exact k
    have pre16 : ∀ t, Steps p.tables e below (T9.setTop (mkF m 65 #[.val (.ref xarr), .val (.int (1 : Int32)), .val (.int (3 : Int32)), .val (.int v7), .val (.int v13), .val (.int v20), .val (.int v27), .val (.int (1 : Int32)), .val (.int v59)] [(.int v20), (.int v59)])) t → Steps p.tables e below (s₁.setTop (entryFrame m #[(.ref xarr), (.int (1 : Int32)), (.int (3 : Int32))] 9)) t := by
      intro t k
      refine pre15 _ ?_
      show Steps p.tables e below (T9.setTop (mkF m 61 #[.val (.ref xarr), .val (.int (1 : Int32)), .val (.int (3 : Int32)), .val (.int v7), .val (.int v13), .val (.int v20), .val (.int v27), .val (.int (1 : Int32)), .val (.int v59)] [])) _
      refine XS.iload X9.here hx rfl (hb hby own_d1_61) rfl ?_
      show Steps p.tables e below (T9.setTop (mkF m 63 #[.val (.ref xarr), .val (.int (1 : Int32)), .val (.int (3 : Int32)), .val (.int v7), .val (.int v13), .val (.int v20), .val (.int v27), .val (.int (1 : Int32)), .val (.int v59)] [(.int v59)])) _
      refine XS.iload X9.here hx rfl (hb hby own_d1_63) rfl ?_
      exact k
    by_cases hc65 : v59 < v20
    · obtain ⟨fs, hr, hrun, hended, hW, hsame⟩ := X9.leave (v := some (.int (-1 : Int32))) (fun h => by rw [Bd.returns] at h; cases h)
      have ev17 : (own_cs 2 (z1 &&& (255 : Int32)) (z2 &&& (255 : Int32)) (z3 &&& (255 : Int32)) (z4 &&& (255 : Int32))) = (-1 : Int32) := by
        have hq := hv13
        simp only [own_cs, own_g2, own_g3, own_g4, ← hv7, ← hv13, ← hv20, ← hv27, ← hv59]
        simp [hc36, hc65]
      refine ⟨_, _, pre16 _ ?_, hrun, hended, _, _, rfl, ?_, ⟨_, rfl⟩, hW, hsame.mono (by decide) (by decide)⟩
      · show Steps p.tables e below (T9.setTop (mkF m 65 #[.val (.ref xarr), .val (.int (1 : Int32)), .val (.int (3 : Int32)), .val (.int v7), .val (.int v13), .val (.int v20), .val (.int v27), .val (.int (1 : Int32)), .val (.int v59)] [(.int v20), (.int v59)])) _
        refine XS.icmpYes X9.here hx rfl (pc0 := 65) (pc' := 75) rfl (hb hby own_d1_65) rfl (tlt hc65).1 (by decide) (by decide) ?_
        show Steps p.tables e below (T9.setTop (mkF m 75 #[.val (.ref xarr), .val (.int (1 : Int32)), .val (.int (3 : Int32)), .val (.int v7), .val (.int v13), .val (.int v20), .val (.int v27), .val (.int (1 : Int32)), .val (.int v59)] [])) _
        refine XS.iconst X9.here hx rfl (hb hby own_d1_75) ?_
        show Steps p.tables e below (T9.setTop (mkF m 76 #[.val (.ref xarr), .val (.int (1 : Int32)), .val (.int (3 : Int32)), .val (.int v7), .val (.int v13), .val (.int v20), .val (.int v27), .val (.int (1 : Int32)), .val (.int v59)] [(.int (-1 : Int32))])) _
        exact retI X9 hx Bd.returns (hb hby own_d1_76) hr
      · show own_Q1_1_2 Z xarr xk z0 z1 z2 z3 z4 wS cS wL cL wH cH h0 n0 _ T9.heap _
        rw [e9]
        exact ⟨(by rw [ev17]), N0, rfl⟩
    · have pre18 : ∀ t, Steps p.tables e below (T9.setTop (mkF m 72 #[.val (.ref xarr), .val (.int (1 : Int32)), .val (.int (3 : Int32)), .val (.int v7), .val (.int v13), .val (.int v20), .val (.int v27), .val (.int (1 : Int32)), .val (.int v59)] [(.int v27), (.int v59)])) t → Steps p.tables e below (s₁.setTop (entryFrame m #[(.ref xarr), (.int (1 : Int32)), (.int (3 : Int32))] 9)) t := by
        intro t k
        refine pre16 _ ?_
        show Steps p.tables e below (T9.setTop (mkF m 65 #[.val (.ref xarr), .val (.int (1 : Int32)), .val (.int (3 : Int32)), .val (.int v7), .val (.int v13), .val (.int v20), .val (.int v27), .val (.int (1 : Int32)), .val (.int v59)] [(.int v20), (.int v59)])) _
        refine XS.icmpNo X9.here hx rfl (hb hby own_d1_65) rfl (flt hc65).1 ?_
        show Steps p.tables e below (T9.setTop (mkF m 68 #[.val (.ref xarr), .val (.int (1 : Int32)), .val (.int (3 : Int32)), .val (.int v7), .val (.int v13), .val (.int v20), .val (.int v27), .val (.int (1 : Int32)), .val (.int v59)] [])) _
        refine XS.iload X9.here hx rfl (hb hby own_d1_68) rfl ?_
        show Steps p.tables e below (T9.setTop (mkF m 70 #[.val (.ref xarr), .val (.int (1 : Int32)), .val (.int (3 : Int32)), .val (.int v7), .val (.int v13), .val (.int v20), .val (.int v27), .val (.int (1 : Int32)), .val (.int v59)] [(.int v59)])) _
        refine XS.iload X9.here hx rfl (hb hby own_d1_70) rfl ?_
        exact k
      by_cases hc72 : v27 < v59
      · obtain ⟨fs, hr, hrun, hended, hW, hsame⟩ := X9.leave (v := some (.int (-1 : Int32))) (fun h => by rw [Bd.returns] at h; cases h)
        have ev19 : (own_cs 2 (z1 &&& (255 : Int32)) (z2 &&& (255 : Int32)) (z3 &&& (255 : Int32)) (z4 &&& (255 : Int32))) = (-1 : Int32) := by
          have hq := hv13
          simp only [own_cs, own_g2, own_g3, own_g4, ← hv7, ← hv13, ← hv20, ← hv27, ← hv59]
          simp [hc36, hc65, hc72]
        refine ⟨_, _, pre18 _ ?_, hrun, hended, _, _, rfl, ?_, ⟨_, rfl⟩, hW, hsame.mono (by decide) (by decide)⟩
        · show Steps p.tables e below (T9.setTop (mkF m 72 #[.val (.ref xarr), .val (.int (1 : Int32)), .val (.int (3 : Int32)), .val (.int v7), .val (.int v13), .val (.int v20), .val (.int v27), .val (.int (1 : Int32)), .val (.int v59)] [(.int v27), (.int v59)])) _
          refine XS.icmpNo X9.here hx rfl (hb hby own_d1_72) rfl (tlt hc72).2.2.2 ?_
          show Steps p.tables e below (T9.setTop (mkF m 75 #[.val (.ref xarr), .val (.int (1 : Int32)), .val (.int (3 : Int32)), .val (.int v7), .val (.int v13), .val (.int v20), .val (.int v27), .val (.int (1 : Int32)), .val (.int v59)] [])) _
          refine XS.iconst X9.here hx rfl (hb hby own_d1_75) ?_
          show Steps p.tables e below (T9.setTop (mkF m 76 #[.val (.ref xarr), .val (.int (1 : Int32)), .val (.int (3 : Int32)), .val (.int v7), .val (.int v13), .val (.int v20), .val (.int v27), .val (.int (1 : Int32)), .val (.int v59)] [(.int (-1 : Int32))])) _
          exact retI X9 hx Bd.returns (hb hby own_d1_76) hr
        · show own_Q1_1_2 Z xarr xk z0 z1 z2 z3 z4 wS cS wL cL wH cH h0 n0 _ T9.heap _
          rw [e9]
          exact ⟨(by rw [ev19]), N0, rfl⟩
      · have pre20 : ∀ t, Steps p.tables e below (T9.setTop (mkF m 36 #[.val (.ref xarr), .val (.int (1 : Int32)), .val (.int (3 : Int32)), .val (.int v7), .val (.int v13), .val (.int (128 : Int32)), .val (.int (191 : Int32)), .val (.int (2 : Int32)), .val (.int v59)] [(.int v13), (.int (2 : Int32))])) t → Steps p.tables e below (s₁.setTop (entryFrame m #[(.ref xarr), (.int (1 : Int32)), (.int (3 : Int32))] 9)) t := by
          intro t k
          refine pre18 _ ?_
          show Steps p.tables e below (T9.setTop (mkF m 72 #[.val (.ref xarr), .val (.int (1 : Int32)), .val (.int (3 : Int32)), .val (.int v7), .val (.int v13), .val (.int v20), .val (.int v27), .val (.int (1 : Int32)), .val (.int v59)] [(.int v27), (.int v59)])) _
          refine XS.icmpYes X9.here hx rfl (pc0 := 72) (pc' := 77) rfl (hb hby own_d1_72) rfl (flt hc72).2.2.2 (by decide) (by decide) ?_
          show Steps p.tables e below (T9.setTop (mkF m 77 #[.val (.ref xarr), .val (.int (1 : Int32)), .val (.int (3 : Int32)), .val (.int v7), .val (.int v13), .val (.int v20), .val (.int v27), .val (.int (1 : Int32)), .val (.int v59)] [])) _
          refine XS.sipush X9.here hx rfl (hb hby own_d1_77) ?_
          show Steps p.tables e below (T9.setTop (mkF m 80 #[.val (.ref xarr), .val (.int (1 : Int32)), .val (.int (3 : Int32)), .val (.int v7), .val (.int v13), .val (.int v20), .val (.int v27), .val (.int (1 : Int32)), .val (.int v59)] [(.int (128 : Int32))])) _
          refine XS.istore X9.here hx rfl (hb hby own_d1_80) rfl (l' := #[.val (.ref xarr), .val (.int (1 : Int32)), .val (.int (3 : Int32)), .val (.int v7), .val (.int v13), .val (.int (128 : Int32)), .val (.int v27), .val (.int (1 : Int32)), .val (.int v59)]) rfl ?_
          show Steps p.tables e below (T9.setTop (mkF m 82 #[.val (.ref xarr), .val (.int (1 : Int32)), .val (.int (3 : Int32)), .val (.int v7), .val (.int v13), .val (.int (128 : Int32)), .val (.int v27), .val (.int (1 : Int32)), .val (.int v59)] [])) _
          refine XS.sipush X9.here hx rfl (hb hby own_d1_82) ?_
          show Steps p.tables e below (T9.setTop (mkF m 85 #[.val (.ref xarr), .val (.int (1 : Int32)), .val (.int (3 : Int32)), .val (.int v7), .val (.int v13), .val (.int (128 : Int32)), .val (.int v27), .val (.int (1 : Int32)), .val (.int v59)] [(.int (191 : Int32))])) _
          refine XS.istore X9.here hx rfl (hb hby own_d1_85) rfl (l' := #[.val (.ref xarr), .val (.int (1 : Int32)), .val (.int (3 : Int32)), .val (.int v7), .val (.int v13), .val (.int (128 : Int32)), .val (.int (191 : Int32)), .val (.int (1 : Int32)), .val (.int v59)]) rfl ?_
          show Steps p.tables e below (T9.setTop (mkF m 87 #[.val (.ref xarr), .val (.int (1 : Int32)), .val (.int (3 : Int32)), .val (.int v7), .val (.int v13), .val (.int (128 : Int32)), .val (.int (191 : Int32)), .val (.int (1 : Int32)), .val (.int v59)] [])) _
          refine XS.iinc X9.here hx rfl (hb hby own_d1_87) rfl (l' := #[.val (.ref xarr), .val (.int (1 : Int32)), .val (.int (3 : Int32)), .val (.int v7), .val (.int v13), .val (.int (128 : Int32)), .val (.int (191 : Int32)), .val (.int (2 : Int32)), .val (.int v59)]) rfl ?_
          show Steps p.tables e below (T9.setTop (mkF m 90 #[.val (.ref xarr), .val (.int (1 : Int32)), .val (.int (3 : Int32)), .val (.int v7), .val (.int v13), .val (.int (128 : Int32)), .val (.int (191 : Int32)), .val (.int (2 : Int32)), .val (.int v59)] [])) _
          refine XS.goto X9.here hx rfl (pc0 := 90) (pc' := 32) rfl (hb hby own_d1_90) (by decide) (by decide) ?_
          show Steps p.tables e below (T9.setTop (mkF m 32 #[.val (.ref xarr), .val (.int (1 : Int32)), .val (.int (3 : Int32)), .val (.int v7), .val (.int v13), .val (.int (128 : Int32)), .val (.int (191 : Int32)), .val (.int (2 : Int32)), .val (.int v59)] [])) _
          refine XS.iload X9.here hx rfl (hb hby own_d1_32) rfl ?_
          show Steps p.tables e below (T9.setTop (mkF m 34 #[.val (.ref xarr), .val (.int (1 : Int32)), .val (.int (3 : Int32)), .val (.int v7), .val (.int v13), .val (.int (128 : Int32)), .val (.int (191 : Int32)), .val (.int (2 : Int32)), .val (.int v59)] [(.int (2 : Int32))])) _
          refine XS.iload X9.here hx rfl (hb hby own_d1_34) rfl ?_
          exact k
        by_cases hc36_2 : (2 : Int32) < v13
        · obtain ⟨fs, hr, hrun, hended, hW, hsame⟩ := X9.leave (v := some (.int (0 : Int32))) (fun h => by rw [Bd.returns] at h; cases h)
          have ev21 : (own_cs 2 (z1 &&& (255 : Int32)) (z2 &&& (255 : Int32)) (z3 &&& (255 : Int32)) (z4 &&& (255 : Int32))) = (0 : Int32) := by
            have hq := hv13
            simp only [own_cs, own_g2, own_g3, own_g4, ← hv7, ← hv13, ← hv20, ← hv27, ← hv59]
            simp [hc36, hc65, hc72, hc36_2]
          refine ⟨_, _, pre20 _ ?_, hrun, hended, _, _, rfl, ?_, ⟨_, rfl⟩, hW, hsame.mono (by decide) (by decide)⟩
          · show Steps p.tables e below (T9.setTop (mkF m 36 #[.val (.ref xarr), .val (.int (1 : Int32)), .val (.int (3 : Int32)), .val (.int v7), .val (.int v13), .val (.int (128 : Int32)), .val (.int (191 : Int32)), .val (.int (2 : Int32)), .val (.int v59)] [(.int v13), (.int (2 : Int32))])) _
            refine XS.icmpNo X9.here hx rfl (hb hby own_d1_36) rfl (tlt hc36_2).2.1 ?_
            show Steps p.tables e below (T9.setTop (mkF m 39 #[.val (.ref xarr), .val (.int (1 : Int32)), .val (.int (3 : Int32)), .val (.int v7), .val (.int v13), .val (.int (128 : Int32)), .val (.int (191 : Int32)), .val (.int (2 : Int32)), .val (.int v59)] [])) _
            refine XS.iloadN X9.here hx rfl (hb hby own_d1_39) rfl ?_
            show Steps p.tables e below (T9.setTop (mkF m 40 #[.val (.ref xarr), .val (.int (1 : Int32)), .val (.int (3 : Int32)), .val (.int v7), .val (.int v13), .val (.int (128 : Int32)), .val (.int (191 : Int32)), .val (.int (2 : Int32)), .val (.int v59)] [(.int (1 : Int32))])) _
            refine XS.iload X9.here hx rfl (hb hby own_d1_40) rfl ?_
            show Steps p.tables e below (T9.setTop (mkF m 42 #[.val (.ref xarr), .val (.int (1 : Int32)), .val (.int (3 : Int32)), .val (.int v7), .val (.int v13), .val (.int (128 : Int32)), .val (.int (191 : Int32)), .val (.int (2 : Int32)), .val (.int v59)] [(.int (2 : Int32)), (.int (1 : Int32))])) _
            refine XS.iadd X9.here hx rfl (hb hby own_d1_42) rfl ?_
            show Steps p.tables e below (T9.setTop (mkF m 43 #[.val (.ref xarr), .val (.int (1 : Int32)), .val (.int (3 : Int32)), .val (.int v7), .val (.int v13), .val (.int (128 : Int32)), .val (.int (191 : Int32)), .val (.int (2 : Int32)), .val (.int v59)] [(.int (3 : Int32))])) _
            refine XS.iloadN X9.here hx rfl (hb hby own_d1_43) rfl ?_
            show Steps p.tables e below (T9.setTop (mkF m 44 #[.val (.ref xarr), .val (.int (1 : Int32)), .val (.int (3 : Int32)), .val (.int v7), .val (.int v13), .val (.int (128 : Int32)), .val (.int (191 : Int32)), .val (.int (2 : Int32)), .val (.int v59)] [(.int (3 : Int32)), (.int (3 : Int32))])) _
            refine XS.icmpNo X9.here hx rfl (hb hby own_d1_44) rfl (teq rfl).2 ?_
            show Steps p.tables e below (T9.setTop (mkF m 47 #[.val (.ref xarr), .val (.int (1 : Int32)), .val (.int (3 : Int32)), .val (.int v7), .val (.int v13), .val (.int (128 : Int32)), .val (.int (191 : Int32)), .val (.int (2 : Int32)), .val (.int v59)] [])) _
            refine XS.iconst X9.here hx rfl (hb hby own_d1_47) ?_
            show Steps p.tables e below (T9.setTop (mkF m 48 #[.val (.ref xarr), .val (.int (1 : Int32)), .val (.int (3 : Int32)), .val (.int v7), .val (.int v13), .val (.int (128 : Int32)), .val (.int (191 : Int32)), .val (.int (2 : Int32)), .val (.int v59)] [(.int (0 : Int32))])) _
            exact retI X9 hx Bd.returns (hb hby own_d1_48) hr
          · show own_Q1_1_2 Z xarr xk z0 z1 z2 z3 z4 wS cS wL cL wH cH h0 n0 _ T9.heap _
            rw [e9]
            exact ⟨(by rw [ev21]), N0, rfl⟩
        · obtain ⟨fs, hr, hrun, hended, hW, hsame⟩ := X9.leave (v := some (.int v13)) (fun h => by rw [Bd.returns] at h; cases h)
          have ev22 : (own_cs 2 (z1 &&& (255 : Int32)) (z2 &&& (255 : Int32)) (z3 &&& (255 : Int32)) (z4 &&& (255 : Int32))) = v13 := by
            have hq := hv13
            simp only [own_cs, own_g2, own_g3, own_g4, ← hv7, ← hv13, ← hv20, ← hv27, ← hv59]
            simp [hc36, hc65, hc72, hc36_2]
          refine ⟨_, _, pre20 _ ?_, hrun, hended, _, _, rfl, ?_, ⟨_, rfl⟩, hW, hsame.mono (by decide) (by decide)⟩
          · show Steps p.tables e below (T9.setTop (mkF m 36 #[.val (.ref xarr), .val (.int (1 : Int32)), .val (.int (3 : Int32)), .val (.int v7), .val (.int v13), .val (.int (128 : Int32)), .val (.int (191 : Int32)), .val (.int (2 : Int32)), .val (.int v59)] [(.int v13), (.int (2 : Int32))])) _
            refine XS.icmpYes X9.here hx rfl (pc0 := 36) (pc' := 93) rfl (hb hby own_d1_36) rfl (flt hc36_2).2.1 (by decide) (by decide) ?_
            show Steps p.tables e below (T9.setTop (mkF m 93 #[.val (.ref xarr), .val (.int (1 : Int32)), .val (.int (3 : Int32)), .val (.int v7), .val (.int v13), .val (.int (128 : Int32)), .val (.int (191 : Int32)), .val (.int (2 : Int32)), .val (.int v59)] [])) _
            refine XS.iload X9.here hx rfl (hb hby own_d1_93) rfl ?_
            show Steps p.tables e below (T9.setTop (mkF m 95 #[.val (.ref xarr), .val (.int (1 : Int32)), .val (.int (3 : Int32)), .val (.int v7), .val (.int v13), .val (.int (128 : Int32)), .val (.int (191 : Int32)), .val (.int (2 : Int32)), .val (.int v59)] [(.int v13)])) _
            exact retI X9 hx Bd.returns (hb hby own_d1_95) hr
          · show own_Q1_1_2 Z xarr xk z0 z1 z2 z3 z4 wS cS wL cL wH cH h0 n0 _ T9.heap _
            rw [e9]
            exact ⟨(by rw [ev22]), N0, rfl⟩
  · obtain ⟨fs, hr, hrun, hended, hW, hsame⟩ := X9.leave (v := some (.int v13)) (fun h => by rw [Bd.returns] at h; cases h)
    have ev23 : (own_cs 2 (z1 &&& (255 : Int32)) (z2 &&& (255 : Int32)) (z3 &&& (255 : Int32)) (z4 &&& (255 : Int32))) = v13 := by
      have hq := hv13
      simp only [own_cs, own_g2, own_g3, own_g4, ← hv7, ← hv13, ← hv20, ← hv27]
      simp [hc36]
    refine ⟨_, _, pre12 _ ?_, hrun, hended, _, _, rfl, ?_, ⟨_, rfl⟩, hW, hsame.mono (by decide) (by decide)⟩
    · show Steps p.tables e below (T9.setTop (mkF m 36 #[.val (.ref xarr), .val (.int (1 : Int32)), .val (.int (3 : Int32)), .val (.int v7), .val (.int v13), .val (.int v20), .val (.int v27), .val (.int (1 : Int32)), .unset] [(.int v13), (.int (1 : Int32))])) _
      refine XS.icmpYes X9.here hx rfl (pc0 := 36) (pc' := 93) rfl (hb hby own_d1_36) rfl (flt hc36).2.1 (by decide) (by decide) ?_
      show Steps p.tables e below (T9.setTop (mkF m 93 #[.val (.ref xarr), .val (.int (1 : Int32)), .val (.int (3 : Int32)), .val (.int v7), .val (.int v13), .val (.int v20), .val (.int v27), .val (.int (1 : Int32)), .unset] [])) _
      refine XS.iload X9.here hx rfl (hb hby own_d1_93) rfl ?_
      show Steps p.tables e below (T9.setTop (mkF m 95 #[.val (.ref xarr), .val (.int (1 : Int32)), .val (.int (3 : Int32)), .val (.int v7), .val (.int v13), .val (.int v20), .val (.int v27), .val (.int (1 : Int32)), .unset] [(.int v13)])) _
      exact retI X9 hx Bd.returns (hb hby own_d1_95) hr
    · show own_Q1_1_2 Z xarr xk z0 z1 z2 z3 z4 wS cS wL cL wH cH h0 n0 _ T9.heap _
      rw [e9]
      exact ⟨(by rw [ev23]), N0, rfl⟩
def own_Q1_1_3 (Z : State) (xarr : Addr) (xk : ClassId) (z0 : Int32) (z1 : Int32) (z2 : Int32) (z3 : Int32) (z4 : Int32) (wS : Addr) (cS : Cell) (wL : Addr) (cL : Cell) (wH : Addr) (cH : Cell) (h0 : Heap) (n0 : Nat) (v : Option Value) (h : Heap) (L : List Loc) : Prop := v = some (.int (own_cs 3 (z1 &&& (255 : Int32)) (z2 &&& (255 : Int32)) (z3 &&& (255 : Int32)) (z4 &&& (255 : Int32)))) ∧ Fr n0 L ∧ h = h0
theorem own_ef1_1_3 (m : MethodId) (xarr : Addr) : entryFrame m #[(.ref xarr), (.int (1 : Int32)), (.int (4 : Int32))] 9 = mkF m 0 #[.val (.ref xarr), .val (.int (1 : Int32)), .val (.int (4 : Int32)), .unset, .unset, .unset, .unset, .unset, .unset] [] := by first | (simp [entryFrame, mkF, argsToLocals, Value.category]; done) | rfl
set_option maxRecDepth 65536 in
set_option maxHeartbeats 40000000 in
theorem own_rm1_1_3 (l : Launch) (Z : State) (a0 : Array Value) (hw : ∀ d ∈ tables_1, d.before a0 Z = true) (ws : List Jvm.Cond) (xarr : Addr) (xk : ClassId) (z0 : Int32) (z1 : Int32) (z2 : Int32) (z3 : Int32) (z4 : Int32) (wS : Addr) (cS : Cell) (wL : Addr) (cL : Cell) (wH : Addr) (cH : Cell) (h0 : Heap) (n0 : Nat) (Z0 : n0 ≤ h0.size) (A_xarr : Arv Z h0 xarr xk .byte (5 : Int32) [(.int z0), (.int z1), (.int z2), (.int z3), (.int z4)] (.int (0 : Int32))) (S_SIZES : Sta Z h0 "com/example/stratafile/stratafile/io/Utf8" "SIZES" "[B" (.ref wS)) (R_wS : Arr Z h0 wS cS .byte) (S_SECOND_LOWEST : Sta Z h0 "com/example/stratafile/stratafile/io/Utf8" "SECOND_LOWEST" "[I" (.ref wL)) (R_wL : Arr Z h0 wL cL .int) (S_SECOND_HIGHEST : Sta Z h0 "com/example/stratafile/stratafile/io/Utf8" "SECOND_HIGHEST" "[I" (.ref wH)) (R_wH : Arr Z h0 wH cH .int) (szcS : cS.slots.size = (256 : Int32).toNatClampNeg) (tacS : ∀ j : Int32, ¬ (j < 0 ∨ cS.slots.size ≤ j.toNatClampNeg) → cS.slots[j.toNatClampNeg]? = some (.int (own_szT j))) (szcL : cL.slots.size = (256 : Int32).toNatClampNeg) (tacL : ∀ j : Int32, ¬ (j < 0 ∨ cL.slots.size ≤ j.toNatClampNeg) → cL.slots[j.toNatClampNeg]? = some (.int (own_loT j))) (szcH : cH.slots.size = (256 : Int32).toNatClampNeg) (tacH : ∀ j : Int32, ¬ (j < 0 ∨ cH.slots.size ≤ j.toNatClampNeg) → cH.slots[j.toNatClampNeg]? = some (.int (own_hiT j))) :
    MetFree l (⟨"com/example/stratafile/stratafile/io/Utf8", "characterSize", "([BII)I"⟩ : MethodName) (head1 (Jvm.Cond.code (⟨"com/example/stratafile/stratafile/io/Utf8", "characterSize", "([BII)I"⟩ : MethodName) prog_115_method_3_code 9 (some .int) :: ws) ({ frames := 0, cells := 0, slots := 0, locals := 0 } : Room)) (fun a U => a = #[(.ref xarr), (.int (1 : Int32)), (.int (4 : Int32))] ∧ Z.Warmed39 U.vm ∧ U.heap = h0) (fun _ _ _ _ _ => True) (fun _ U o U' => ∃ v L, o = .returned v ∧ own_Q1_1_3 Z xarr xk z0 z1 z2 z3 z4 wS cS wL cL wH cH h0 n0 v U'.heap L ∧ FrameEnd U o U' L ({ frames := 0, cells := 0, slots := 0, locals := 0 } : Room).cells ({ frames := 0, cells := 0, slots := 0, locals := 0 } : Room).slots) := by
  refine MetFree.of_bodySF (plainFor_of_name own_pn1) hisR ?_
  intro p e s m args below meth c s₁ Bd hml0 hP hK
  obtain ⟨rfl, hZ, hh⟩ := hP
  have hx := Bd.exec
  have hby := Bd.bytes
  have hml : c.maxLocals = 9 := hml0
  have hown : s.vm.findClass "com/example/stratafile/stratafile/io/Utf8" = some m.cls := findClass_of_methodNamed Bd.named
  have hnm := (name_of_methodNamed Bd.named Bd.method).1
  have X0 : Stand p l e ({ frames := 0, cells := 0, slots := 0, locals := 0 } : Room) s m #[(.ref xarr), (.int (1 : Int32)), (.int (4 : Int32))] below meth c s₁ [] 0 0 := Stand.of_body Bd
  have e0 : s₁.heap = h0 := by rw [← hh, Bd.state]; rfl
  have N0 := Fr.nil n0
  have pre0 : ∀ t, Steps p.tables e below (s₁.setTop (mkF m 0 #[.val (.ref xarr), .val (.int (1 : Int32)), .val (.int (4 : Int32)), .unset, .unset, .unset, .unset, .unset, .unset] [])) t → Steps p.tables e below (s₁.setTop (entryFrame m #[(.ref xarr), (.int (1 : Int32)), (.int (4 : Int32))] 9)) t := fun t k => castTop (own_ef1_1_3 m xarr) k
  obtain ⟨cl1, Ar1, q1, S1, M1, H1, G1⟩ := id A_xarr
  have in1 := inb_of S1 (j := (1 : Int32)) ⟨by decide, by decide⟩
  obtain ⟨v7, hv7⟩ : ∃ w : Int32, w = (z1 &&& (255 : Int32)) := ⟨_, rfl⟩
  have pre2 : ∀ t, Steps p.tables e below (s₁.setTop (mkF m 8 #[.val (.ref xarr), .val (.int (1 : Int32)), .val (.int (4 : Int32)), .val (.int v7), .unset, .unset, .unset, .unset, .unset] [])) t → Steps p.tables e below (s₁.setTop (entryFrame m #[(.ref xarr), (.int (1 : Int32)), (.int (4 : Int32))] 9)) t := by
    intro t k
    rw [hv7] at k
    refine pre0 _ ?_
    show Steps p.tables e below (s₁.setTop (mkF m 0 #[.val (.ref xarr), .val (.int (1 : Int32)), .val (.int (4 : Int32)), .unset, .unset, .unset, .unset, .unset, .unset] [])) _
    refine XS.aloadN X0.here hx rfl (hb hby own_d1_0) rfl rfl ?_
    show Steps p.tables e below (s₁.setTop (mkF m 1 #[.val (.ref xarr), .val (.int (1 : Int32)), .val (.int (4 : Int32)), .unset, .unset, .unset, .unset, .unset, .unset] [(.ref xarr)])) _
    refine XS.iloadN X0.here hx rfl (hb hby own_d1_1) rfl ?_
    show Steps p.tables e below (s₁.setTop (mkF m 2 #[.val (.ref xarr), .val (.int (1 : Int32)), .val (.int (4 : Int32)), .unset, .unset, .unset, .unset, .unset, .unset] [(.int (1 : Int32)), (.ref xarr)])) _
    refine X0.baloadBytes hx (j := (1 : Int32)) (v := (.int z1)) (by rw [e0]; exact Ar1.1) (State.isArrayOf_alike hZ.alike Ar1.2.1) Ar1.2.2 in1 (H1.at in1 rfl) (g := (mkF m 2 #[.val (.ref xarr), .val (.int (1 : Int32)), .val (.int (4 : Int32)), .unset, .unset, .unset, .unset, .unset, .unset] [(.int (1 : Int32)), (.ref xarr)])) rfl rfl (hb hby own_d1_2) _ ?_
    show Steps p.tables e below (s₁.setTop (mkF m 3 #[.val (.ref xarr), .val (.int (1 : Int32)), .val (.int (4 : Int32)), .unset, .unset, .unset, .unset, .unset, .unset] [(.int z1)])) _
    refine XS.sipush X0.here hx rfl (hb hby own_d1_3) ?_
    show Steps p.tables e below (s₁.setTop (mkF m 6 #[.val (.ref xarr), .val (.int (1 : Int32)), .val (.int (4 : Int32)), .unset, .unset, .unset, .unset, .unset, .unset] [(.int (255 : Int32)), (.int z1)])) _
    refine XS.iand X0.here hx rfl (hb hby own_d1_6) rfl ?_
    show Steps p.tables e below (s₁.setTop (mkF m 7 #[.val (.ref xarr), .val (.int (1 : Int32)), .val (.int (4 : Int32)), .unset, .unset, .unset, .unset, .unset, .unset] [(.int (z1 &&& (255 : Int32)))])) _
    refine XS.istoreN X0.here hx rfl (hb hby own_d1_7) rfl (l' := #[.val (.ref xarr), .val (.int (1 : Int32)), .val (.int (4 : Int32)), .val (.int (z1 &&& (255 : Int32))), .unset, .unset, .unset, .unset, .unset]) rfl ?_
    exact k
  have hv7r : ¬ v7 < 0 ∧ v7 < (256 : Int32) := by rw [hv7]; exact own_b255 _
  obtain ⟨T3, X3, e3, st3⟩ := getS2 X0 hx hZ hown (host := "") (Or.inl (hw _ (List.mem_of_getElem? (i := 5) rfl))) Via.refl e0 S_SIZES (g := (mkF m 8 #[.val (.ref xarr), .val (.int (1 : Int32)), .val (.int (4 : Int32)), .val (.int v7), .unset, .unset, .unset, .unset, .unset] [])) rfl (hb hby own_d1_8)
  have in4 : ¬ (v7 < 0 ∨ cS.slots.size ≤ (v7).toNatClampNeg) := inb_of szcS hv7r
  obtain ⟨v13, hv13⟩ : ∃ w : Int32, w = (own_szT v7) := ⟨_, rfl⟩
  have pre5 : ∀ t, Steps p.tables e below (T3.setTop (mkF m 15 #[.val (.ref xarr), .val (.int (1 : Int32)), .val (.int (4 : Int32)), .val (.int v7), .val (.int v13), .unset, .unset, .unset, .unset] [])) t → Steps p.tables e below (s₁.setTop (entryFrame m #[(.ref xarr), (.int (1 : Int32)), (.int (4 : Int32))] 9)) t := by
    intro t k
    rw [hv13] at k
    refine pre2 _ ?_
    show Steps p.tables e below (s₁.setTop (mkF m 8 #[.val (.ref xarr), .val (.int (1 : Int32)), .val (.int (4 : Int32)), .val (.int v7), .unset, .unset, .unset, .unset, .unset] [])) _
    refine st3 _ ?_
    show Steps p.tables e below (T3.setTop (mkF m 11 #[.val (.ref xarr), .val (.int (1 : Int32)), .val (.int (4 : Int32)), .val (.int v7), .unset, .unset, .unset, .unset, .unset] [(.ref wS)])) _
    refine XS.iloadN X3.here hx rfl (hb hby own_d1_11) rfl ?_
    show Steps p.tables e below (T3.setTop (mkF m 12 #[.val (.ref xarr), .val (.int (1 : Int32)), .val (.int (4 : Int32)), .val (.int v7), .unset, .unset, .unset, .unset, .unset] [(.int v7), (.ref wS)])) _
    refine X3.baloadBytes hx (j := v7) (v := (.int (own_szT v7))) (by rw [e3]; exact R_wS.1) (State.isArrayOf_alike hZ.alike R_wS.2.1) R_wS.2.2 in4 (tacS _ in4) (g := (mkF m 12 #[.val (.ref xarr), .val (.int (1 : Int32)), .val (.int (4 : Int32)), .val (.int v7), .unset, .unset, .unset, .unset, .unset] [(.int v7), (.ref wS)])) rfl rfl (hb hby own_d1_12) _ ?_
    show Steps p.tables e below (T3.setTop (mkF m 13 #[.val (.ref xarr), .val (.int (1 : Int32)), .val (.int (4 : Int32)), .val (.int v7), .unset, .unset, .unset, .unset, .unset] [(.int (own_szT v7))])) _
    refine XS.istore X3.here hx rfl (hb hby own_d1_13) rfl (l' := #[.val (.ref xarr), .val (.int (1 : Int32)), .val (.int (4 : Int32)), .val (.int v7), .val (.int (own_szT v7)), .unset, .unset, .unset, .unset]) rfl ?_
    exact k
  obtain ⟨T6, X6, e6, st6⟩ := getS2 X3 hx hZ hown (host := "") (Or.inl (hw _ (List.mem_of_getElem? (i := 7) rfl))) Via.refl e3 S_SECOND_LOWEST (g := (mkF m 15 #[.val (.ref xarr), .val (.int (1 : Int32)), .val (.int (4 : Int32)), .val (.int v7), .val (.int v13), .unset, .unset, .unset, .unset] [])) rfl (hb hby own_d1_15)
  have in7 : ¬ (v7 < 0 ∨ cL.slots.size ≤ (v7).toNatClampNeg) := inb_of szcL hv7r
  obtain ⟨v20, hv20⟩ : ∃ w : Int32, w = (own_loT v7) := ⟨_, rfl⟩
  have pre8 : ∀ t, Steps p.tables e below (T6.setTop (mkF m 22 #[.val (.ref xarr), .val (.int (1 : Int32)), .val (.int (4 : Int32)), .val (.int v7), .val (.int v13), .val (.int v20), .unset, .unset, .unset] [])) t → Steps p.tables e below (s₁.setTop (entryFrame m #[(.ref xarr), (.int (1 : Int32)), (.int (4 : Int32))] 9)) t := by
    intro t k
    rw [hv20] at k
    refine pre5 _ ?_
    show Steps p.tables e below (T3.setTop (mkF m 15 #[.val (.ref xarr), .val (.int (1 : Int32)), .val (.int (4 : Int32)), .val (.int v7), .val (.int v13), .unset, .unset, .unset, .unset] [])) _
    refine st6 _ ?_
    show Steps p.tables e below (T6.setTop (mkF m 18 #[.val (.ref xarr), .val (.int (1 : Int32)), .val (.int (4 : Int32)), .val (.int v7), .val (.int v13), .unset, .unset, .unset, .unset] [(.ref wL)])) _
    refine XS.iloadN X6.here hx rfl (hb hby own_d1_18) rfl ?_
    show Steps p.tables e below (T6.setTop (mkF m 19 #[.val (.ref xarr), .val (.int (1 : Int32)), .val (.int (4 : Int32)), .val (.int v7), .val (.int v13), .unset, .unset, .unset, .unset] [(.int v7), (.ref wL)])) _
    refine X6.iaload hx (j := v7) (v := (.int (own_loT v7))) (by rw [e6]; exact R_wL.1) (State.isArrayOf_alike hZ.alike R_wL.2.1) R_wL.2.2 in7 (tacL _ in7) (g := (mkF m 19 #[.val (.ref xarr), .val (.int (1 : Int32)), .val (.int (4 : Int32)), .val (.int v7), .val (.int v13), .unset, .unset, .unset, .unset] [(.int v7), (.ref wL)])) rfl rfl (hb hby own_d1_19) _ ?_
    show Steps p.tables e below (T6.setTop (mkF m 20 #[.val (.ref xarr), .val (.int (1 : Int32)), .val (.int (4 : Int32)), .val (.int v7), .val (.int v13), .unset, .unset, .unset, .unset] [(.int (own_loT v7))])) _
    refine XS.istore X6.here hx rfl (hb hby own_d1_20) rfl (l' := #[.val (.ref xarr), .val (.int (1 : Int32)), .val (.int (4 : Int32)), .val (.int v7), .val (.int v13), .val (.int (own_loT v7)), .unset, .unset, .unset]) rfl ?_
    exact k
  obtain ⟨T9, X9, e9, st9⟩ := getS2 X6 hx hZ hown (host := "") (Or.inl (hw _ (List.mem_of_getElem? (i := 9) rfl))) Via.refl e6 S_SECOND_HIGHEST (g := (mkF m 22 #[.val (.ref xarr), .val (.int (1 : Int32)), .val (.int (4 : Int32)), .val (.int v7), .val (.int v13), .val (.int v20), .unset, .unset, .unset] [])) rfl (hb hby own_d1_22)
  have in10 : ¬ (v7 < 0 ∨ cH.slots.size ≤ (v7).toNatClampNeg) := inb_of szcH hv7r
  obtain ⟨v27, hv27⟩ : ∃ w : Int32, w = (own_hiT v7) := ⟨_, rfl⟩
  have pre11 : ∀ t, Steps p.tables e below (T9.setTop (mkF m 29 #[.val (.ref xarr), .val (.int (1 : Int32)), .val (.int (4 : Int32)), .val (.int v7), .val (.int v13), .val (.int v20), .val (.int v27), .unset, .unset] [])) t → Steps p.tables e below (s₁.setTop (entryFrame m #[(.ref xarr), (.int (1 : Int32)), (.int (4 : Int32))] 9)) t := by
    intro t k
    rw [hv27] at k
    refine pre8 _ ?_
    show Steps p.tables e below (T6.setTop (mkF m 22 #[.val (.ref xarr), .val (.int (1 : Int32)), .val (.int (4 : Int32)), .val (.int v7), .val (.int v13), .val (.int v20), .unset, .unset, .unset] [])) _
    refine st9 _ ?_
    show Steps p.tables e below (T9.setTop (mkF m 25 #[.val (.ref xarr), .val (.int (1 : Int32)), .val (.int (4 : Int32)), .val (.int v7), .val (.int v13), .val (.int v20), .unset, .unset, .unset] [(.ref wH)])) _
    refine XS.iloadN X9.here hx rfl (hb hby own_d1_25) rfl ?_
    show Steps p.tables e below (T9.setTop (mkF m 26 #[.val (.ref xarr), .val (.int (1 : Int32)), .val (.int (4 : Int32)), .val (.int v7), .val (.int v13), .val (.int v20), .unset, .unset, .unset] [(.int v7), (.ref wH)])) _
    refine X9.iaload hx (j := v7) (v := (.int (own_hiT v7))) (by rw [e9]; exact R_wH.1) (State.isArrayOf_alike hZ.alike R_wH.2.1) R_wH.2.2 in10 (tacH _ in10) (g := (mkF m 26 #[.val (.ref xarr), .val (.int (1 : Int32)), .val (.int (4 : Int32)), .val (.int v7), .val (.int v13), .val (.int v20), .unset, .unset, .unset] [(.int v7), (.ref wH)])) rfl rfl (hb hby own_d1_26) _ ?_
    show Steps p.tables e below (T9.setTop (mkF m 27 #[.val (.ref xarr), .val (.int (1 : Int32)), .val (.int (4 : Int32)), .val (.int v7), .val (.int v13), .val (.int v20), .unset, .unset, .unset] [(.int (own_hiT v7))])) _
    refine XS.istore X9.here hx rfl (hb hby own_d1_27) rfl (l' := #[.val (.ref xarr), .val (.int (1 : Int32)), .val (.int (4 : Int32)), .val (.int v7), .val (.int v13), .val (.int v20), .val (.int (own_hiT v7)), .unset, .unset]) rfl ?_
    exact k
  have pre12 : ∀ t, Steps p.tables e below (T9.setTop (mkF m 36 #[.val (.ref xarr), .val (.int (1 : Int32)), .val (.int (4 : Int32)), .val (.int v7), .val (.int v13), .val (.int v20), .val (.int v27), .val (.int (1 : Int32)), .unset] [(.int v13), (.int (1 : Int32))])) t → Steps p.tables e below (s₁.setTop (entryFrame m #[(.ref xarr), (.int (1 : Int32)), (.int (4 : Int32))] 9)) t := by
    intro t k
    refine pre11 _ ?_
    show Steps p.tables e below (T9.setTop (mkF m 29 #[.val (.ref xarr), .val (.int (1 : Int32)), .val (.int (4 : Int32)), .val (.int v7), .val (.int v13), .val (.int v20), .val (.int v27), .unset, .unset] [])) _
    refine XS.iconst X9.here hx rfl (hb hby own_d1_29) ?_
    show Steps p.tables e below (T9.setTop (mkF m 30 #[.val (.ref xarr), .val (.int (1 : Int32)), .val (.int (4 : Int32)), .val (.int v7), .val (.int v13), .val (.int v20), .val (.int v27), .unset, .unset] [(.int (1 : Int32))])) _
    refine XS.istore X9.here hx rfl (hb hby own_d1_30) rfl (l' := #[.val (.ref xarr), .val (.int (1 : Int32)), .val (.int (4 : Int32)), .val (.int v7), .val (.int v13), .val (.int v20), .val (.int v27), .val (.int (1 : Int32)), .unset]) rfl ?_
    show Steps p.tables e below (T9.setTop (mkF m 32 #[.val (.ref xarr), .val (.int (1 : Int32)), .val (.int (4 : Int32)), .val (.int v7), .val (.int v13), .val (.int v20), .val (.int v27), .val (.int (1 : Int32)), .unset] [])) _
    refine XS.iload X9.here hx rfl (hb hby own_d1_32) rfl ?_
    show Steps p.tables e below (T9.setTop (mkF m 34 #[.val (.ref xarr), .val (.int (1 : Int32)), .val (.int (4 : Int32)), .val (.int v7), .val (.int v13), .val (.int v20), .val (.int v27), .val (.int (1 : Int32)), .unset] [(.int (1 : Int32))])) _
    refine XS.iload X9.here hx rfl (hb hby own_d1_34) rfl ?_
    exact k
  by_cases hc36 : (1 : Int32) < v13
  · have hd13 : ¬ ((2 : Int32) = (4 : Int32)) := (by decide)
    obtain ⟨cl14, Ar14, q14, S14, M14, H14, G14⟩ := id A_xarr
    have in14 := inb_of S14 (j := (2 : Int32)) ⟨by decide, by decide⟩
    obtain ⟨v59, hv59⟩ : ∃ w : Int32, w = (z2 &&& (255 : Int32)) := ⟨_, rfl⟩
    have pre15 : ∀ t, Steps p.tables e below (T9.setTop (mkF m 61 #[.val (.ref xarr), .val (.int (1 : Int32)), .val (.int (4 : Int32)), .val (.int v7), .val (.int v13), .val (.int v20), .val (.int v27), .val (.int (1 : Int32)), .val (.int v59)] [])) t → Steps p.tables e below (s₁.setTop (entryFrame m #[(.ref xarr), (.int (1 : Int32)), (.int (4 : Int32))] 9)) t := by
      intro t k
      rw [hv59] at k
      refine pre12 _ ?_
      show Steps p.tables e below (T9.setTop (mkF m 36 #[.val (.ref xarr), .val (.int (1 : Int32)), .val (.int (4 : Int32)), .val (.int v7), .val (.int v13), .val (.int v20), .val (.int v27), .val (.int (1 : Int32)), .unset] [(.int v13), (.int (1 : Int32))])) _
      refine XS.icmpNo X9.here hx rfl (hb hby own_d1_36) rfl (tlt hc36).2.1 ?_
      show Steps p.tables e below (T9.setTop (mkF m 39 #[.val (.ref xarr), .val (.int (1 : Int32)), .val (.int (4 : Int32)), .val (.int v7), .val (.int v13), .val (.int v20), .val (.int v27), .val (.int (1 : Int32)), .unset] [])) _
      refine XS.iloadN X9.here hx rfl (hb hby own_d1_39) rfl ?_
      show Steps p.tables e below (T9.setTop (mkF m 40 #[.val (.ref xarr), .val (.int (1 : Int32)), .val (.int (4 : Int32)), .val (.int v7), .val (.int v13), .val (.int v20), .val (.int v27), .val (.int (1 : Int32)), .unset] [(.int (1 : Int32))])) _
      refine XS.iload X9.here hx rfl (hb hby own_d1_40) rfl ?_
      show Steps p.tables e below (T9.setTop (mkF m 42 #[.val (.ref xarr), .val (.int (1 : Int32)), .val (.int (4 : Int32)), .val (.int v7), .val (.int v13), .val (.int v20), .val (.int v27), .val (.int (1 : Int32)), .unset] [(.int (1 : Int32)), (.int (1 : Int32))])) _
      refine XS.iadd X9.here hx rfl (hb hby own_d1_42) rfl ?_
      show Steps p.tables e below (T9.setTop (mkF m 43 #[.val (.ref xarr), .val (.int (1 : Int32)), .val (.int (4 : Int32)), .val (.int v7), .val (.int v13), .val (.int v20), .val (.int v27), .val (.int (1 : Int32)), .unset] [(.int (2 : Int32))])) _
      refine XS.iloadN X9.here hx rfl (hb hby own_d1_43) rfl ?_
      show Steps p.tables e below (T9.setTop (mkF m 44 #[.val (.ref xarr), .val (.int (1 : Int32)), .val (.int (4 : Int32)), .val (.int v7), .val (.int v13), .val (.int v20), .val (.int v27), .val (.int (1 : Int32)), .unset] [(.int (4 : Int32)), (.int (2 : Int32))])) _
      refine XS.icmpYes X9.here hx rfl (pc0 := 44) (pc' := 49) rfl (hb hby own_d1_44) rfl (feq hd13).2 (by decide) (by decide) ?_
      show Steps p.tables e below (T9.setTop (mkF m 49 #[.val (.ref xarr), .val (.int (1 : Int32)), .val (.int (4 : Int32)), .val (.int v7), .val (.int v13), .val (.int v20), .val (.int v27), .val (.int (1 : Int32)), .unset] [])) _
      refine XS.aloadN X9.here hx rfl (hb hby own_d1_49) rfl rfl ?_
      show Steps p.tables e below (T9.setTop (mkF m 50 #[.val (.ref xarr), .val (.int (1 : Int32)), .val (.int (4 : Int32)), .val (.int v7), .val (.int v13), .val (.int v20), .val (.int v27), .val (.int (1 : Int32)), .unset] [(.ref xarr)])) _
      refine XS.iloadN X9.here hx rfl (hb hby own_d1_50) rfl ?_
      show Steps p.tables e below (T9.setTop (mkF m 51 #[.val (.ref xarr), .val (.int (1 : Int32)), .val (.int (4 : Int32)), .val (.int v7), .val (.int v13), .val (.int v20), .val (.int v27), .val (.int (1 : Int32)), .unset] [(.int (1 : Int32)), (.ref xarr)])) _
      refine XS.iload X9.here hx rfl (hb hby own_d1_51) rfl ?_
      show Steps p.tables e below (T9.setTop (mkF m 53 #[.val (.ref xarr), .val (.int (1 : Int32)), .val (.int (4 : Int32)), .val (.int v7), .val (.int v13), .val (.int v20), .val (.int v27), .val (.int (1 : Int32)), .unset] [(.int (1 : Int32)), (.int (1 : Int32)), (.ref xarr)])) _
      refine XS.iadd X9.here hx rfl (hb hby own_d1_53) rfl ?_
      show Steps p.tables e below (T9.setTop (mkF m 54 #[.val (.ref xarr), .val (.int (1 : Int32)), .val (.int (4 : Int32)), .val (.int v7), .val (.int v13), .val (.int v20), .val (.int v27), .val (.int (1 : Int32)), .unset] [(.int (2 : Int32)), (.ref xarr)])) _
      refine X9.baloadBytes hx (j := (2 : Int32)) (v := (.int z2)) (by rw [e9]; exact Ar14.1) (State.isArrayOf_alike hZ.alike Ar14.2.1) Ar14.2.2 in14 (H14.at in14 rfl) (g := (mkF m 54 #[.val (.ref xarr), .val (.int (1 : Int32)), .val (.int (4 : Int32)), .val (.int v7), .val (.int v13), .val (.int v20), .val (.int v27), .val (.int (1 : Int32)), .unset] [(.int (2 : Int32)), (.ref xarr)])) rfl rfl (hb hby own_d1_54) _ ?_
      show Steps p.tables e below (T9.setTop (mkF m 55 #[.val (.ref xarr), .val (.int (1 : Int32)), .val (.int (4 : Int32)), .val (.int v7), .val (.int v13), .val (.int v20), .val (.int v27), .val (.int (1 : Int32)), .unset] [(.int z2)])) _
      refine XS.sipush X9.here hx rfl (hb hby own_d1_55) ?_
      show Steps p.tables e below (T9.setTop (mkF m 58 #[.val (.ref xarr), .val (.int (1 : Int32)), .val (.int (4 : Int32)), .val (.int v7), .val (.int v13), .val (.int v20), .val (.int v27), .val (.int (1 : Int32)), .unset] [(.int (255 : Int32)), (.int z2)])) _
      refine XS.iand X9.here hx rfl (hb hby own_d1_58) rfl ?_
      show Steps p.tables e below (T9.setTop (mkF m 59 #[.val (.ref xarr), .val (.int (1 : Int32)), .val (.int (4 : Int32)), .val (.int v7), .val (.int v13), .val (.int v20), .val (.int v27), .val (.int (1 : Int32)), .unset] [(.int (z2 &&& (255 : Int32)))])) _
      refine XS.istore X9.here hx rfl (hb hby own_d1_59) rfl (l' := #[.val (.ref xarr), .val (.int (1 : Int32)), .val (.int (4 : Int32)), .val (.int v7), .val (.int v13), .val (.int v20), .val (.int v27), .val (.int (1 : Int32)), .val (.int (z2 &&& (255 : Int32)))]) rfl ?_
      exact k
    have pre16 : ∀ t, Steps p.tables e below (T9.setTop (mkF m 65 #[.val (.ref xarr), .val (.int (1 : Int32)), .val (.int (4 : Int32)), .val (.int v7), .val (.int v13), .val (.int v20), .val (.int v27), .val (.int (1 : Int32)), .val (.int v59)] [(.int v20), (.int v59)])) t → Steps p.tables e below (s₁.setTop (entryFrame m #[(.ref xarr), (.int (1 : Int32)), (.int (4 : Int32))] 9)) t := by
      intro t k
      refine pre15 _ ?_
      show Steps p.tables e below (T9.setTop (mkF m 61 #[.val (.ref xarr), .val (.int (1 : Int32)), .val (.int (4 : Int32)), .val (.int v7), .val (.int v13), .val (.int v20), .val (.int v27), .val (.int (1 : Int32)), .val (.int v59)] [])) _
      refine XS.iload X9.here hx rfl (hb hby own_d1_61) rfl ?_
      show Steps p.tables e below (T9.setTop (mkF m 63 #[.val (.ref xarr), .val (.int (1 : Int32)), .val (.int (4 : Int32)), .val (.int v7), .val (.int v13), .val (.int v20), .val (.int v27), .val (.int (1 : Int32)), .val (.int v59)] [(.int v59)])) _
      refine XS.iload X9.here hx rfl (hb hby own_d1_63) rfl ?_
      exact k
    by_cases hc65 : v59 < v20
    · obtain ⟨fs, hr, hrun, hended, hW, hsame⟩ := X9.leave (v := some (.int (-1 : Int32))) (fun h => by rw [Bd.returns] at h; cases h)
      have ev17 : (own_cs 3 (z1 &&& (255 : Int32)) (z2 &&& (255 : Int32)) (z3 &&& (255 : Int32)) (z4 &&& (255 : Int32))) = (-1 : Int32) := by
        have hq := hv13
        simp only [own_cs, own_g2, own_g3, own_g4, ← hv7, ← hv13, ← hv20, ← hv27, ← hv59]
        simp [hc36, hc65]
      refine ⟨_, _, pre16 _ ?_, hrun, hended, _, _, rfl, ?_, ⟨_, rfl⟩, hW, hsame.mono (by decide) (by decide)⟩
      · show Steps p.tables e below (T9.setTop (mkF m 65 #[.val (.ref xarr), .val (.int (1 : Int32)), .val (.int (4 : Int32)), .val (.int v7), .val (.int v13), .val (.int v20), .val (.int v27), .val (.int (1 : Int32)), .val (.int v59)] [(.int v20), (.int v59)])) _
        refine XS.icmpYes X9.here hx rfl (pc0 := 65) (pc' := 75) rfl (hb hby own_d1_65) rfl (tlt hc65).1 (by decide) (by decide) ?_
        show Steps p.tables e below (T9.setTop (mkF m 75 #[.val (.ref xarr), .val (.int (1 : Int32)), .val (.int (4 : Int32)), .val (.int v7), .val (.int v13), .val (.int v20), .val (.int v27), .val (.int (1 : Int32)), .val (.int v59)] [])) _
        refine XS.iconst X9.here hx rfl (hb hby own_d1_75) ?_
        show Steps p.tables e below (T9.setTop (mkF m 76 #[.val (.ref xarr), .val (.int (1 : Int32)), .val (.int (4 : Int32)), .val (.int v7), .val (.int v13), .val (.int v20), .val (.int v27), .val (.int (1 : Int32)), .val (.int v59)] [(.int (-1 : Int32))])) _
        exact retI X9 hx Bd.returns (hb hby own_d1_76) hr
      · show own_Q1_1_3 Z xarr xk z0 z1 z2 z3 z4 wS cS wL cL wH cH h0 n0 _ T9.heap _
        rw [e9]
        exact ⟨(by rw [ev17]), N0, rfl⟩
    · have pre18 : ∀ t, Steps p.tables e below (T9.setTop (mkF m 72 #[.val (.ref xarr), .val (.int (1 : Int32)), .val (.int (4 : Int32)), .val (.int v7), .val (.int v13), .val (.int v20), .val (.int v27), .val (.int (1 : Int32)), .val (.int v59)] [(.int v27), (.int v59)])) t → Steps p.tables e below (s₁.setTop (entryFrame m #[(.ref xarr), (.int (1 : Int32)), (.int (4 : Int32))] 9)) t := by
        intro t k
        refine pre16 _ ?_
        show Steps p.tables e below (T9.setTop (mkF m 65 #[.val (.ref xarr), .val (.int (1 : Int32)), .val (.int (4 : Int32)), .val (.int v7), .val (.int v13), .val (.int v20), .val (.int v27), .val (.int (1 : Int32)), .val (.int v59)] [(.int v20), (.int v59)])) _
        refine XS.icmpNo X9.here hx rfl (hb hby own_d1_65) rfl (flt hc65).1 ?_
        show Steps p.tables e below (T9.setTop (mkF m 68 #[.val (.ref xarr), .val (.int (1 : Int32)), .val (.int (4 : Int32)), .val (.int v7), .val (.int v13), .val (.int v20), .val (.int v27), .val (.int (1 : Int32)), .val (.int v59)] [])) _
        refine XS.iload X9.here hx rfl (hb hby own_d1_68) rfl ?_
        show Steps p.tables e below (T9.setTop (mkF m 70 #[.val (.ref xarr), .val (.int (1 : Int32)), .val (.int (4 : Int32)), .val (.int v7), .val (.int v13), .val (.int v20), .val (.int v27), .val (.int (1 : Int32)), .val (.int v59)] [(.int v59)])) _
        refine XS.iload X9.here hx rfl (hb hby own_d1_70) rfl ?_
        exact k
      by_cases hc72 : v27 < v59
      · obtain ⟨fs, hr, hrun, hended, hW, hsame⟩ := X9.leave (v := some (.int (-1 : Int32))) (fun h => by rw [Bd.returns] at h; cases h)
        have ev19 : (own_cs 3 (z1 &&& (255 : Int32)) (z2 &&& (255 : Int32)) (z3 &&& (255 : Int32)) (z4 &&& (255 : Int32))) = (-1 : Int32) := by
          have hq := hv13
          simp only [own_cs, own_g2, own_g3, own_g4, ← hv7, ← hv13, ← hv20, ← hv27, ← hv59]
          simp [hc36, hc65, hc72]
        refine ⟨_, _, pre18 _ ?_, hrun, hended, _, _, rfl, ?_, ⟨_, rfl⟩, hW, hsame.mono (by decide) (by decide)⟩
        · show Steps p.tables e below (T9.setTop (mkF m 72 #[.val (.ref xarr), .val (.int (1 : Int32)), .val (.int (4 : Int32)), .val (.int v7), .val (.int v13), .val (.int v20), .val (.int v27), .val (.int (1 : Int32)), .val (.int v59)] [(.int v27), (.int v59)])) _
          refine XS.icmpNo X9.here hx rfl (hb hby own_d1_72) rfl (tlt hc72).2.2.2 ?_
          show Steps p.tables e below (T9.setTop (mkF m 75 #[.val (.ref xarr), .val (.int (1 : Int32)), .val (.int (4 : Int32)), .val (.int v7), .val (.int v13), .val (.int v20), .val (.int v27), .val (.int (1 : Int32)), .val (.int v59)] [])) _
          refine XS.iconst X9.here hx rfl (hb hby own_d1_75) ?_
          show Steps p.tables e below (T9.setTop (mkF m 76 #[.val (.ref xarr), .val (.int (1 : Int32)), .val (.int (4 : Int32)), .val (.int v7), .val (.int v13), .val (.int v20), .val (.int v27), .val (.int (1 : Int32)), .val (.int v59)] [(.int (-1 : Int32))])) _
          exact retI X9 hx Bd.returns (hb hby own_d1_76) hr
        · show own_Q1_1_3 Z xarr xk z0 z1 z2 z3 z4 wS cS wL cL wH cH h0 n0 _ T9.heap _
          rw [e9]
          exact ⟨(by rw [ev19]), N0, rfl⟩
      · have pre20 : ∀ t, Steps p.tables e below (T9.setTop (mkF m 36 #[.val (.ref xarr), .val (.int (1 : Int32)), .val (.int (4 : Int32)), .val (.int v7), .val (.int v13), .val (.int (128 : Int32)), .val (.int (191 : Int32)), .val (.int (2 : Int32)), .val (.int v59)] [(.int v13), (.int (2 : Int32))])) t → Steps p.tables e below (s₁.setTop (entryFrame m #[(.ref xarr), (.int (1 : Int32)), (.int (4 : Int32))] 9)) t := by
          intro t k
          refine pre18 _ ?_
          show Steps p.tables e below (T9.setTop (mkF m 72 #[.val (.ref xarr), .val (.int (1 : Int32)), .val (.int (4 : Int32)), .val (.int v7), .val (.int v13), .val (.int v20), .val (.int v27), .val (.int (1 : Int32)), .val (.int v59)] [(.int v27), (.int v59)])) _
          refine XS.icmpYes X9.here hx rfl (pc0 := 72) (pc' := 77) rfl (hb hby own_d1_72) rfl (flt hc72).2.2.2 (by decide) (by decide) ?_
          show Steps p.tables e below (T9.setTop (mkF m 77 #[.val (.ref xarr), .val (.int (1 : Int32)), .val (.int (4 : Int32)), .val (.int v7), .val (.int v13), .val (.int v20), .val (.int v27), .val (.int (1 : Int32)), .val (.int v59)] [])) _
          refine XS.sipush X9.here hx rfl (hb hby own_d1_77) ?_
          show Steps p.tables e below (T9.setTop (mkF m 80 #[.val (.ref xarr), .val (.int (1 : Int32)), .val (.int (4 : Int32)), .val (.int v7), .val (.int v13), .val (.int v20), .val (.int v27), .val (.int (1 : Int32)), .val (.int v59)] [(.int (128 : Int32))])) _
          refine XS.istore X9.here hx rfl (hb hby own_d1_80) rfl (l' := #[.val (.ref xarr), .val (.int (1 : Int32)), .val (.int (4 : Int32)), .val (.int v7), .val (.int v13), .val (.int (128 : Int32)), .val (.int v27), .val (.int (1 : Int32)), .val (.int v59)]) rfl ?_
          show Steps p.tables e below (T9.setTop (mkF m 82 #[.val (.ref xarr), .val (.int (1 : Int32)), .val (.int (4 : Int32)), .val (.int v7), .val (.int v13), .val (.int (128 : Int32)), .val (.int v27), .val (.int (1 : Int32)), .val (.int v59)] [])) _
          refine XS.sipush X9.here hx rfl (hb hby own_d1_82) ?_
          show Steps p.tables e below (T9.setTop (mkF m 85 #[.val (.ref xarr), .val (.int (1 : Int32)), .val (.int (4 : Int32)), .val (.int v7), .val (.int v13), .val (.int (128 : Int32)), .val (.int v27), .val (.int (1 : Int32)), .val (.int v59)] [(.int (191 : Int32))])) _
          refine XS.istore X9.here hx rfl (hb hby own_d1_85) rfl (l' := #[.val (.ref xarr), .val (.int (1 : Int32)), .val (.int (4 : Int32)), .val (.int v7), .val (.int v13), .val (.int (128 : Int32)), .val (.int (191 : Int32)), .val (.int (1 : Int32)), .val (.int v59)]) rfl ?_
          show Steps p.tables e below (T9.setTop (mkF m 87 #[.val (.ref xarr), .val (.int (1 : Int32)), .val (.int (4 : Int32)), .val (.int v7), .val (.int v13), .val (.int (128 : Int32)), .val (.int (191 : Int32)), .val (.int (1 : Int32)), .val (.int v59)] [])) _
          refine XS.iinc X9.here hx rfl (hb hby own_d1_87) rfl (l' := #[.val (.ref xarr), .val (.int (1 : Int32)), .val (.int (4 : Int32)), .val (.int v7), .val (.int v13), .val (.int (128 : Int32)), .val (.int (191 : Int32)), .val (.int (2 : Int32)), .val (.int v59)]) rfl ?_
          show Steps p.tables e below (T9.setTop (mkF m 90 #[.val (.ref xarr), .val (.int (1 : Int32)), .val (.int (4 : Int32)), .val (.int v7), .val (.int v13), .val (.int (128 : Int32)), .val (.int (191 : Int32)), .val (.int (2 : Int32)), .val (.int v59)] [])) _
          refine XS.goto X9.here hx rfl (pc0 := 90) (pc' := 32) rfl (hb hby own_d1_90) (by decide) (by decide) ?_
          show Steps p.tables e below (T9.setTop (mkF m 32 #[.val (.ref xarr), .val (.int (1 : Int32)), .val (.int (4 : Int32)), .val (.int v7), .val (.int v13), .val (.int (128 : Int32)), .val (.int (191 : Int32)), .val (.int (2 : Int32)), .val (.int v59)] [])) _
          refine XS.iload X9.here hx rfl (hb hby own_d1_32) rfl ?_
          show Steps p.tables e below (T9.setTop (mkF m 34 #[.val (.ref xarr), .val (.int (1 : Int32)), .val (.int (4 : Int32)), .val (.int v7), .val (.int v13), .val (.int (128 : Int32)), .val (.int (191 : Int32)), .val (.int (2 : Int32)), .val (.int v59)] [(.int (2 : Int32))])) _
          refine XS.iload X9.here hx rfl (hb hby own_d1_34) rfl ?_
          exact k
        by_cases hc36_2 : (2 : Int32) < v13
        · have hd21 : ¬ ((3 : Int32) = (4 : Int32)) := (by decide)
          obtain ⟨cl22, Ar22, q22, S22, M22, H22, G22⟩ := id A_xarr
          have in22 := inb_of S22 (j := (3 : Int32)) ⟨by decide, by decide⟩
          obtain ⟨v59_1, hv59_1⟩ : ∃ w : Int32, w = (z3 &&& (255 : Int32)) := ⟨_, rfl⟩
          have pre23 : ∀ t, Steps p.tables e below (T9.setTop (mkF m 61 #[.val (.ref xarr), .val (.int (1 : Int32)), .val (.int (4 : Int32)), .val (.int v7), .val (.int v13), .val (.int (128 : Int32)), .val (.int (191 : Int32)), .val (.int (2 : Int32)), .val (.int v59_1)] [])) t → Steps p.tables e below (s₁.setTop (entryFrame m #[(.ref xarr), (.int (1 : Int32)), (.int (4 : Int32))] 9)) t := by
            intro t k
            rw [hv59_1] at k
            refine pre20 _ ?_
            show Steps p.tables e below (T9.setTop (mkF m 36 #[.val (.ref xarr), .val (.int (1 : Int32)), .val (.int (4 : Int32)), .val (.int v7), .val (.int v13), .val (.int (128 : Int32)), .val (.int (191 : Int32)), .val (.int (2 : Int32)), .val (.int v59)] [(.int v13), (.int (2 : Int32))])) _
            refine XS.icmpNo X9.here hx rfl (hb hby own_d1_36) rfl (tlt hc36_2).2.1 ?_
            show Steps p.tables e below (T9.setTop (mkF m 39 #[.val (.ref xarr), .val (.int (1 : Int32)), .val (.int (4 : Int32)), .val (.int v7), .val (.int v13), .val (.int (128 : Int32)), .val (.int (191 : Int32)), .val (.int (2 : Int32)), .val (.int v59)] [])) _
            refine XS.iloadN X9.here hx rfl (hb hby own_d1_39) rfl ?_
            show Steps p.tables e below (T9.setTop (mkF m 40 #[.val (.ref xarr), .val (.int (1 : Int32)), .val (.int (4 : Int32)), .val (.int v7), .val (.int v13), .val (.int (128 : Int32)), .val (.int (191 : Int32)), .val (.int (2 : Int32)), .val (.int v59)] [(.int (1 : Int32))])) _
            refine XS.iload X9.here hx rfl (hb hby own_d1_40) rfl ?_
            show Steps p.tables e below (T9.setTop (mkF m 42 #[.val (.ref xarr), .val (.int (1 : Int32)), .val (.int (4 : Int32)), .val (.int v7), .val (.int v13), .val (.int (128 : Int32)), .val (.int (191 : Int32)), .val (.int (2 : Int32)), .val (.int v59)] [(.int (2 : Int32)), (.int (1 : Int32))])) _
            refine XS.iadd X9.here hx rfl (hb hby own_d1_42) rfl ?_
            show Steps p.tables e below (T9.setTop (mkF m 43 #[.val (.ref xarr), .val (.int (1 : Int32)), .val (.int (4 : Int32)), .val (.int v7), .val (.int v13), .val (.int (128 : Int32)), .val (.int (191 : Int32)), .val (.int (2 : Int32)), .val (.int v59)] [(.int (3 : Int32))])) _
            refine XS.iloadN X9.here hx rfl (hb hby own_d1_43) rfl ?_
            show Steps p.tables e below (T9.setTop (mkF m 44 #[.val (.ref xarr), .val (.int (1 : Int32)), .val (.int (4 : Int32)), .val (.int v7), .val (.int v13), .val (.int (128 : Int32)), .val (.int (191 : Int32)), .val (.int (2 : Int32)), .val (.int v59)] [(.int (4 : Int32)), (.int (3 : Int32))])) _
            refine XS.icmpYes X9.here hx rfl (pc0 := 44) (pc' := 49) rfl (hb hby own_d1_44) rfl (feq hd21).2 (by decide) (by decide) ?_
            show Steps p.tables e below (T9.setTop (mkF m 49 #[.val (.ref xarr), .val (.int (1 : Int32)), .val (.int (4 : Int32)), .val (.int v7), .val (.int v13), .val (.int (128 : Int32)), .val (.int (191 : Int32)), .val (.int (2 : Int32)), .val (.int v59)] [])) _
            refine XS.aloadN X9.here hx rfl (hb hby own_d1_49) rfl rfl ?_
            show Steps p.tables e below (T9.setTop (mkF m 50 #[.val (.ref xarr), .val (.int (1 : Int32)), .val (.int (4 : Int32)), .val (.int v7), .val (.int v13), .val (.int (128 : Int32)), .val (.int (191 : Int32)), .val (.int (2 : Int32)), .val (.int v59)] [(.ref xarr)])) _
            refine XS.iloadN X9.here hx rfl (hb hby own_d1_50) rfl ?_
            show Steps p.tables e below (T9.setTop (mkF m 51 #[.val (.ref xarr), .val (.int (1 : Int32)), .val (.int (4 : Int32)), .val (.int v7), .val (.int v13), .val (.int (128 : Int32)), .val (.int (191 : Int32)), .val (.int (2 : Int32)), .val (.int v59)] [(.int (1 : Int32)), (.ref xarr)])) _
            refine XS.iload X9.here hx rfl (hb hby own_d1_51) rfl ?_
            show Steps p.tables e below (T9.setTop (mkF m 53 #[.val (.ref xarr), .val (.int (1 : Int32)), .val (.int (4 : Int32)), .val (.int v7), .val (.int v13), .val (.int (128 : Int32)), .val (.int (191 : Int32)), .val (.int (2 : Int32)), .val (.int v59)] [(.int (2 : Int32)), (.int (1 : Int32)), (.ref xarr)])) _
            refine XS.iadd X9.here hx rfl (hb hby own_d1_53) rfl ?_
            show Steps p.tables e below (T9.setTop (mkF m 54 #[.val (.ref xarr), .val (.int (1 : Int32)), .val (.int (4 : Int32)), .val (.int v7), .val (.int v13), .val (.int (128 : Int32)), .val (.int (191 : Int32)), .val (.int (2 : Int32)), .val (.int v59)] [(.int (3 : Int32)), (.ref xarr)])) _
            refine X9.baloadBytes hx (j := (3 : Int32)) (v := (.int z3)) (by rw [e9]; exact Ar22.1) (State.isArrayOf_alike hZ.alike Ar22.2.1) Ar22.2.2 in22 (H22.at in22 rfl) (g := (mkF m 54 #[.val (.ref xarr), .val (.int (1 : Int32)), .val (.int (4 : Int32)), .val (.int v7), .val (.int v13), .val (.int (128 : Int32)), .val (.int (191 : Int32)), .val (.int (2 : Int32)), .val (.int v59)] [(.int (3 : Int32)), (.ref xarr)])) rfl rfl (hb hby own_d1_54) _ ?_
            show Steps p.tables e below (T9.setTop (mkF m 55 #[.val (.ref xarr), .val (.int (1 : Int32)), .val (.int (4 : Int32)), .val (.int v7), .val (.int v13), .val (.int (128 : Int32)), .val (.int (191 : Int32)), .val (.int (2 : Int32)), .val (.int v59)] [(.int z3)])) _
            refine XS.sipush X9.here hx rfl (hb hby own_d1_55) ?_
            show Steps p.tables e below (T9.setTop (mkF m 58 #[.val (.ref xarr), .val (.int (1 : Int32)), .val (.int (4 : Int32)), .val (.int v7), .val (.int v13), .val (.int (128 : Int32)), .val (.int (191 : Int32)), .val (.int (2 : Int32)), .val (.int v59)] [(.int (255 : Int32)), (.int z3)])) _
            refine XS.iand X9.here hx rfl (hb hby own_d1_58) rfl ?_
            show Steps p.tables e below (T9.setTop (mkF m 59 #[.val (.ref xarr), .val (.int (1 : Int32)), .val (.int (4 : Int32)), .val (.int v7), .val (.int v13), .val (.int (128 : Int32)), .val (.int (191 : Int32)), .val (.int (2 : Int32)), .val (.int v59)] [(.int (z3 &&& (255 : Int32)))])) _
            refine XS.istore X9.here hx rfl (hb hby own_d1_59) rfl (l' := #[.val (.ref xarr), .val (.int (1 : Int32)), .val (.int (4 : Int32)), .val (.int v7), .val (.int v13), .val (.int (128 : Int32)), .val (.int (191 : Int32)), .val (.int (2 : Int32)), .val (.int (z3 &&& (255 : Int32)))]) rfl ?_
            exact k
          have pre24 : ∀ t, Steps p.tables e below (T9.setTop (mkF m 65 #[.val (.ref xarr), .val (.int (1 : Int32)), .val (.int (4 : Int32)), .val (.int v7), .val (.int v13), .val (.int (128 : Int32)), .val (.int (191 : Int32)), .val (.int (2 : Int32)), .val (.int v59_1)] [(.int (128 : Int32)), (.int v59_1)])) t → Steps p.tables e below (s₁.setTop (entryFrame m #[(.ref xarr), (.int (1 : Int32)), (.int (4 : Int32))] 9)) t := by
            intro t k
            refine pre23 _ ?_
            show Steps p.tables e below (T9.setTop (mkF m 61 #[.val (.ref xarr), .val (.int (1 : Int32)), .val (.int (4 : Int32)), .val (.int v7), .val (.int v13), .val (.int (128 : Int32)), .val (.int (191 : Int32)), .val (.int (2 : Int32)), .val (.int v59_1)] [])) _
            refine XS.iload X9.here hx rfl (hb hby own_d1_61) rfl ?_
            show Steps p.tables e below (T9.setTop (mkF m 63 #[.val (.ref xarr), .val (.int (1 : Int32)), .val (.int (4 : Int32)), .val (.int v7), .val (.int v13), .val (.int (128 : Int32)), .val (.int (191 : Int32)), .val (.int (2 : Int32)), .val (.int v59_1)] [(.int v59_1)])) _
            refine XS.iload X9.here hx rfl (hb hby own_d1_63) rfl ?_
            exact k
          by_cases hc65_2 : v59_1 < (128 : Int32)
          · obtain ⟨fs, hr, hrun, hended, hW, hsame⟩ := X9.leave (v := some (.int (-1 : Int32))) (fun h => by rw [Bd.returns] at h; cases h)
            have ev25 : (own_cs 3 (z1 &&& (255 : Int32)) (z2 &&& (255 : Int32)) (z3 &&& (255 : Int32)) (z4 &&& (255 : Int32))) = (-1 : Int32) := by
              have hq := hv13
              simp only [own_cs, own_g2, own_g3, own_g4, ← hv7, ← hv13, ← hv20, ← hv27, ← hv59, ← hv59_1]
              simp [hc36, hc65, hc72, hc36_2, hc65_2]
            refine ⟨_, _, pre24 _ ?_, hrun, hended, _, _, rfl, ?_, ⟨_, rfl⟩, hW, hsame.mono (by decide) (by decide)⟩
            · show Steps p.tables e below (T9.setTop (mkF m 65 #[.val (.ref xarr), .val (.int (1 : Int32)), .val (.int (4 : Int32)), .val (.int v7), .val (.int v13), .val (.int (128 : Int32)), .val (.int (191 : Int32)), .val (.int (2 : Int32)), .val (.int v59_1)] [(.int (128 : Int32)), (.int v59_1)])) _
              refine XS.icmpYes X9.here hx rfl (pc0 := 65) (pc' := 75) rfl (hb hby own_d1_65) rfl (tlt hc65_2).1 (by decide) (by decide) ?_
              show Steps p.tables e below (T9.setTop (mkF m 75 #[.val (.ref xarr), .val (.int (1 : Int32)), .val (.int (4 : Int32)), .val (.int v7), .val (.int v13), .val (.int (128 : Int32)), .val (.int (191 : Int32)), .val (.int (2 : Int32)), .val (.int v59_1)] [])) _
              refine XS.iconst X9.here hx rfl (hb hby own_d1_75) ?_
              show Steps p.tables e below (T9.setTop (mkF m 76 #[.val (.ref xarr), .val (.int (1 : Int32)), .val (.int (4 : Int32)), .val (.int v7), .val (.int v13), .val (.int (128 : Int32)), .val (.int (191 : Int32)), .val (.int (2 : Int32)), .val (.int v59_1)] [(.int (-1 : Int32))])) _
              exact retI X9 hx Bd.returns (hb hby own_d1_76) hr
            · show own_Q1_1_3 Z xarr xk z0 z1 z2 z3 z4 wS cS wL cL wH cH h0 n0 _ T9.heap _
              rw [e9]
              exact ⟨(by rw [ev25]), N0, rfl⟩
          · have pre26 : ∀ t, Steps p.tables e below (T9.setTop (mkF m 72 #[.val (.ref xarr), .val (.int (1 : Int32)), .val (.int (4 : Int32)), .val (.int v7), .val (.int v13), .val (.int (128 : Int32)), .val (.int (191 : Int32)), .val (.int (2 : Int32)), .val (.int v59_1)] [(.int (191 : Int32)), (.int v59_1)])) t → Steps p.tables e below (s₁.setTop (entryFrame m #[(.ref xarr), (.int (1 : Int32)), (.int (4 : Int32))] 9)) t := by
              intro t k
              refine pre24 _ ?_
              show Steps p.tables e below (T9.setTop (mkF m 65 #[.val (.ref xarr), .val (.int (1 : Int32)), .val (.int (4 : Int32)), .val (.int v7), .val (.int v13), .val (.int (128 : Int32)), .val (.int (191 : Int32)), .val (.int (2 : Int32)), .val (.int v59_1)] [(.int (128 : Int32)), (.int v59_1)])) _
              refine XS.icmpNo X9.here hx rfl (hb hby own_d1_65) rfl (flt hc65_2).1 ?_
              show Steps p.tables e below (T9.setTop (mkF m 68 #[.val (.ref xarr), .val (.int (1 : Int32)), .val (.int (4 : Int32)), .val (.int v7), .val (.int v13), .val (.int (128 : Int32)), .val (.int (191 : Int32)), .val (.int (2 : Int32)), .val (.int v59_1)] [])) _
              refine XS.iload X9.here hx rfl (hb hby own_d1_68) rfl ?_
              show Steps p.tables e below (T9.setTop (mkF m 70 #[.val (.ref xarr), .val (.int (1 : Int32)), .val (.int (4 : Int32)), .val (.int v7), .val (.int v13), .val (.int (128 : Int32)), .val (.int (191 : Int32)), .val (.int (2 : Int32)), .val (.int v59_1)] [(.int v59_1)])) _
              refine XS.iload X9.here hx rfl (hb hby own_d1_70) rfl ?_
              exact k
            by_cases hc72_2 : (191 : Int32) < v59_1
            · obtain ⟨fs, hr, hrun, hended, hW, hsame⟩ := X9.leave (v := some (.int (-1 : Int32))) (fun h => by rw [Bd.returns] at h; cases h)
              have ev27 : (own_cs 3 (z1 &&& (255 : Int32)) (z2 &&& (255 : Int32)) (z3 &&& (255 : Int32)) (z4 &&& (255 : Int32))) = (-1 : Int32) := by
                have hq := hv13
                simp only [own_cs, own_g2, own_g3, own_g4, ← hv7, ← hv13, ← hv20, ← hv27, ← hv59, ← hv59_1]
                simp [hc36, hc65, hc72, hc36_2, hc65_2, hc72_2]
              refine ⟨_, _, pre26 _ ?_, hrun, hended, _, _, rfl, ?_, ⟨_, rfl⟩, hW, hsame.mono (by decide) (by decide)⟩
              · show Steps p.tables e below (T9.setTop (mkF m 72 #[.val (.ref xarr), .val (.int (1 : Int32)), .val (.int (4 : Int32)), .val (.int v7), .val (.int v13), .val (.int (128 : Int32)), .val (.int (191 : Int32)), .val (.int (2 : Int32)), .val (.int v59_1)] [(.int (191 : Int32)), (.int v59_1)])) _
                refine XS.icmpNo X9.here hx rfl (hb hby own_d1_72) rfl (tlt hc72_2).2.2.2 ?_
                show Steps p.tables e below (T9.setTop (mkF m 75 #[.val (.ref xarr), .val (.int (1 : Int32)), .val (.int (4 : Int32)), .val (.int v7), .val (.int v13), .val (.int (128 : Int32)), .val (.int (191 : Int32)), .val (.int (2 : Int32)), .val (.int v59_1)] [])) _
                refine XS.iconst X9.here hx rfl (hb hby own_d1_75) ?_
                show Steps p.tables e below (T9.setTop (mkF m 76 #[.val (.ref xarr), .val (.int (1 : Int32)), .val (.int (4 : Int32)), .val (.int v7), .val (.int v13), .val (.int (128 : Int32)), .val (.int (191 : Int32)), .val (.int (2 : Int32)), .val (.int v59_1)] [(.int (-1 : Int32))])) _
                exact retI X9 hx Bd.returns (hb hby own_d1_76) hr
              · show own_Q1_1_3 Z xarr xk z0 z1 z2 z3 z4 wS cS wL cL wH cH h0 n0 _ T9.heap _
                rw [e9]
                exact ⟨(by rw [ev27]), N0, rfl⟩
            · have pre28 : ∀ t, Steps p.tables e below (T9.setTop (mkF m 36 #[.val (.ref xarr), .val (.int (1 : Int32)), .val (.int (4 : Int32)), .val (.int v7), .val (.int v13), .val (.int (128 : Int32)), .val (.int (191 : Int32)), .val (.int (3 : Int32)), .val (.int v59_1)] [(.int v13), (.int (3 : Int32))])) t → Steps p.tables e below (s₁.setTop (entryFrame m #[(.ref xarr), (.int (1 : Int32)), (.int (4 : Int32))] 9)) t := by
                intro t k
                refine pre26 _ ?_
                show Steps p.tables e below (T9.setTop (mkF m 72 #[.val (.ref xarr), .val (.int (1 : Int32)), .val (.int (4 : Int32)), .val (.int v7), .val (.int v13), .val (.int (128 : Int32)), .val (.int (191 : Int32)), .val (.int (2 : Int32)), .val (.int v59_1)] [(.int (191 : Int32)), (.int v59_1)])) _
                refine XS.icmpYes X9.here hx rfl (pc0 := 72) (pc' := 77) rfl (hb hby own_d1_72) rfl (flt hc72_2).2.2.2 (by decide) (by decide) ?_
                show Steps p.tables e below (T9.setTop (mkF m 77 #[.val (.ref xarr), .val (.int (1 : Int32)), .val (.int (4 : Int32)), .val (.int v7), .val (.int v13), .val (.int (128 : Int32)), .val (.int (191 : Int32)), .val (.int (2 : Int32)), .val (.int v59_1)] [])) _
                refine XS.sipush X9.here hx rfl (hb hby own_d1_77) ?_
                show Steps p.tables e below (T9.setTop (mkF m 80 #[.val (.ref xarr), .val (.int (1 : Int32)), .val (.int (4 : Int32)), .val (.int v7), .val (.int v13), .val (.int (128 : Int32)), .val (.int (191 : Int32)), .val (.int (2 : Int32)), .val (.int v59_1)] [(.int (128 : Int32))])) _
                refine XS.istore X9.here hx rfl (hb hby own_d1_80) rfl (l' := #[.val (.ref xarr), .val (.int (1 : Int32)), .val (.int (4 : Int32)), .val (.int v7), .val (.int v13), .val (.int (128 : Int32)), .val (.int (191 : Int32)), .val (.int (2 : Int32)), .val (.int v59_1)]) rfl ?_
                show Steps p.tables e below (T9.setTop (mkF m 82 #[.val (.ref xarr), .val (.int (1 : Int32)), .val (.int (4 : Int32)), .val (.int v7), .val (.int v13), .val (.int (128 : Int32)), .val (.int (191 : Int32)), .val (.int (2 : Int32)), .val (.int v59_1)] [])) _
                refine XS.sipush X9.here hx rfl (hb hby own_d1_82) ?_
                show Steps p.tables e below (T9.setTop (mkF m 85 #[.val (.ref xarr), .val (.int (1 : Int32)), .val (.int (4 : Int32)), .val (.int v7), .val (.int v13), .val (.int (128 : Int32)), .val (.int (191 : Int32)), .val (.int (2 : Int32)), .val (.int v59_1)] [(.int (191 : Int32))])) _
                refine XS.istore X9.here hx rfl (hb hby own_d1_85) rfl (l' := #[.val (.ref xarr), .val (.int (1 : Int32)), .val (.int (4 : Int32)), .val (.int v7), .val (.int v13), .val (.int (128 : Int32)), .val (.int (191 : Int32)), .val (.int (2 : Int32)), .val (.int v59_1)]) rfl ?_
                show Steps p.tables e below (T9.setTop (mkF m 87 #[.val (.ref xarr), .val (.int (1 : Int32)), .val (.int (4 : Int32)), .val (.int v7), .val (.int v13), .val (.int (128 : Int32)), .val (.int (191 : Int32)), .val (.int (2 : Int32)), .val (.int v59_1)] [])) _
                refine XS.iinc X9.here hx rfl (hb hby own_d1_87) rfl (l' := #[.val (.ref xarr), .val (.int (1 : Int32)), .val (.int (4 : Int32)), .val (.int v7), .val (.int v13), .val (.int (128 : Int32)), .val (.int (191 : Int32)), .val (.int (3 : Int32)), .val (.int v59_1)]) rfl ?_
                show Steps p.tables e below (T9.setTop (mkF m 90 #[.val (.ref xarr), .val (.int (1 : Int32)), .val (.int (4 : Int32)), .val (.int v7), .val (.int v13), .val (.int (128 : Int32)), .val (.int (191 : Int32)), .val (.int (3 : Int32)), .val (.int v59_1)] [])) _
                refine XS.goto X9.here hx rfl (pc0 := 90) (pc' := 32) rfl (hb hby own_d1_90) (by decide) (by decide) ?_
                show Steps p.tables e below (T9.setTop (mkF m 32 #[.val (.ref xarr), .val (.int (1 : Int32)), .val (.int (4 : Int32)), .val (.int v7), .val (.int v13), .val (.int (128 : Int32)), .val (.int (191 : Int32)), .val (.int (3 : Int32)), .val (.int v59_1)] [])) _
                refine XS.iload X9.here hx rfl (hb hby own_d1_32) rfl ?_
                show Steps p.tables e below (T9.setTop (mkF m 34 #[.val (.ref xarr), .val (.int (1 : Int32)), .val (.int (4 : Int32)), .val (.int v7), .val (.int v13), .val (.int (128 : Int32)), .val (.int (191 : Int32)), .val (.int (3 : Int32)), .val (.int v59_1)] [(.int (3 : Int32))])) _
                refine XS.iload X9.here hx rfl (hb hby own_d1_34) rfl ?_
                exact k
              by_cases hc36_3 : (3 : Int32) < v13
              · obtain ⟨fs, hr, hrun, hended, hW, hsame⟩ := X9.leave (v := some (.int (0 : Int32))) (fun h => by rw [Bd.returns] at h; cases h)
                have ev29 : (own_cs 3 (z1 &&& (255 : Int32)) (z2 &&& (255 : Int32)) (z3 &&& (255 : Int32)) (z4 &&& (255 : Int32))) = (0 : Int32) := by
                  have hq := hv13
                  simp only [own_cs, own_g2, own_g3, own_g4, ← hv7, ← hv13, ← hv20, ← hv27, ← hv59, ← hv59_1]
                  simp [hc36, hc65, hc72, hc36_2, hc65_2, hc72_2, hc36_3]
                refine ⟨_, _, pre28 _ ?_, hrun, hended, _, _, rfl, ?_, ⟨_, rfl⟩, hW, hsame.mono (by decide) (by decide)⟩
                · show Steps p.tables e below (T9.setTop (mkF m 36 #[.val (.ref xarr), .val (.int (1 : Int32)), .val (.int (4 : Int32)), .val (.int v7), .val (.int v13), .val (.int (128 : Int32)), .val (.int (191 : Int32)), .val (.int (3 : Int32)), .val (.int v59_1)] [(.int v13), (.int (3 : Int32))])) _
                  refine XS.icmpNo X9.here hx rfl (hb hby own_d1_36) rfl (tlt hc36_3).2.1 ?_
                  show Steps p.tables e below (T9.setTop (mkF m 39 #[.val (.ref xarr), .val (.int (1 : Int32)), .val (.int (4 : Int32)), .val (.int v7), .val (.int v13), .val (.int (128 : Int32)), .val (.int (191 : Int32)), .val (.int (3 : Int32)), .val (.int v59_1)] [])) _
                  refine XS.iloadN X9.here hx rfl (hb hby own_d1_39) rfl ?_
                  show Steps p.tables e below (T9.setTop (mkF m 40 #[.val (.ref xarr), .val (.int (1 : Int32)), .val (.int (4 : Int32)), .val (.int v7), .val (.int v13), .val (.int (128 : Int32)), .val (.int (191 : Int32)), .val (.int (3 : Int32)), .val (.int v59_1)] [(.int (1 : Int32))])) _
                  refine XS.iload X9.here hx rfl (hb hby own_d1_40) rfl ?_
                  show Steps p.tables e below (T9.setTop (mkF m 42 #[.val (.ref xarr), .val (.int (1 : Int32)), .val (.int (4 : Int32)), .val (.int v7), .val (.int v13), .val (.int (128 : Int32)), .val (.int (191 : Int32)), .val (.int (3 : Int32)), .val (.int v59_1)] [(.int (3 : Int32)), (.int (1 : Int32))])) _
                  refine XS.iadd X9.here hx rfl (hb hby own_d1_42) rfl ?_
                  show Steps p.tables e below (T9.setTop (mkF m 43 #[.val (.ref xarr), .val (.int (1 : Int32)), .val (.int (4 : Int32)), .val (.int v7), .val (.int v13), .val (.int (128 : Int32)), .val (.int (191 : Int32)), .val (.int (3 : Int32)), .val (.int v59_1)] [(.int (4 : Int32))])) _
                  refine XS.iloadN X9.here hx rfl (hb hby own_d1_43) rfl ?_
                  show Steps p.tables e below (T9.setTop (mkF m 44 #[.val (.ref xarr), .val (.int (1 : Int32)), .val (.int (4 : Int32)), .val (.int v7), .val (.int v13), .val (.int (128 : Int32)), .val (.int (191 : Int32)), .val (.int (3 : Int32)), .val (.int v59_1)] [(.int (4 : Int32)), (.int (4 : Int32))])) _
                  refine XS.icmpNo X9.here hx rfl (hb hby own_d1_44) rfl (teq rfl).2 ?_
                  show Steps p.tables e below (T9.setTop (mkF m 47 #[.val (.ref xarr), .val (.int (1 : Int32)), .val (.int (4 : Int32)), .val (.int v7), .val (.int v13), .val (.int (128 : Int32)), .val (.int (191 : Int32)), .val (.int (3 : Int32)), .val (.int v59_1)] [])) _
                  refine XS.iconst X9.here hx rfl (hb hby own_d1_47) ?_
                  show Steps p.tables e below (T9.setTop (mkF m 48 #[.val (.ref xarr), .val (.int (1 : Int32)), .val (.int (4 : Int32)), .val (.int v7), .val (.int v13), .val (.int (128 : Int32)), .val (.int (191 : Int32)), .val (.int (3 : Int32)), .val (.int v59_1)] [(.int (0 : Int32))])) _
                  exact retI X9 hx Bd.returns (hb hby own_d1_48) hr
                · show own_Q1_1_3 Z xarr xk z0 z1 z2 z3 z4 wS cS wL cL wH cH h0 n0 _ T9.heap _
                  rw [e9]
                  exact ⟨(by rw [ev29]), N0, rfl⟩
              · obtain ⟨fs, hr, hrun, hended, hW, hsame⟩ := X9.leave (v := some (.int v13)) (fun h => by rw [Bd.returns] at h; cases h)
                have ev30 : (own_cs 3 (z1 &&& (255 : Int32)) (z2 &&& (255 : Int32)) (z3 &&& (255 : Int32)) (z4 &&& (255 : Int32))) = v13 := by
                  have hq := hv13
                  simp only [own_cs, own_g2, own_g3, own_g4, ← hv7, ← hv13, ← hv20, ← hv27, ← hv59, ← hv59_1]
                  simp [hc36, hc65, hc72, hc36_2, hc65_2, hc72_2, hc36_3]
                refine ⟨_, _, pre28 _ ?_, hrun, hended, _, _, rfl, ?_, ⟨_, rfl⟩, hW, hsame.mono (by decide) (by decide)⟩
                · show Steps p.tables e below (T9.setTop (mkF m 36 #[.val (.ref xarr), .val (.int (1 : Int32)), .val (.int (4 : Int32)), .val (.int v7), .val (.int v13), .val (.int (128 : Int32)), .val (.int (191 : Int32)), .val (.int (3 : Int32)), .val (.int v59_1)] [(.int v13), (.int (3 : Int32))])) _
                  refine XS.icmpYes X9.here hx rfl (pc0 := 36) (pc' := 93) rfl (hb hby own_d1_36) rfl (flt hc36_3).2.1 (by decide) (by decide) ?_
                  show Steps p.tables e below (T9.setTop (mkF m 93 #[.val (.ref xarr), .val (.int (1 : Int32)), .val (.int (4 : Int32)), .val (.int v7), .val (.int v13), .val (.int (128 : Int32)), .val (.int (191 : Int32)), .val (.int (3 : Int32)), .val (.int v59_1)] [])) _
                  refine XS.iload X9.here hx rfl (hb hby own_d1_93) rfl ?_
                  show Steps p.tables e below (T9.setTop (mkF m 95 #[.val (.ref xarr), .val (.int (1 : Int32)), .val (.int (4 : Int32)), .val (.int v7), .val (.int v13), .val (.int (128 : Int32)), .val (.int (191 : Int32)), .val (.int (3 : Int32)), .val (.int v59_1)] [(.int v13)])) _
                  exact retI X9 hx Bd.returns (hb hby own_d1_95) hr
                · show own_Q1_1_3 Z xarr xk z0 z1 z2 z3 z4 wS cS wL cL wH cH h0 n0 _ T9.heap _
                  rw [e9]
                  exact ⟨(by rw [ev30]), N0, rfl⟩
        · obtain ⟨fs, hr, hrun, hended, hW, hsame⟩ := X9.leave (v := some (.int v13)) (fun h => by rw [Bd.returns] at h; cases h)
          have ev31 : (own_cs 3 (z1 &&& (255 : Int32)) (z2 &&& (255 : Int32)) (z3 &&& (255 : Int32)) (z4 &&& (255 : Int32))) = v13 := by
            have hq := hv13
            simp only [own_cs, own_g2, own_g3, own_g4, ← hv7, ← hv13, ← hv20, ← hv27, ← hv59]
            simp [hc36, hc65, hc72, hc36_2]
          refine ⟨_, _, pre20 _ ?_, hrun, hended, _, _, rfl, ?_, ⟨_, rfl⟩, hW, hsame.mono (by decide) (by decide)⟩
          · show Steps p.tables e below (T9.setTop (mkF m 36 #[.val (.ref xarr), .val (.int (1 : Int32)), .val (.int (4 : Int32)), .val (.int v7), .val (.int v13), .val (.int (128 : Int32)), .val (.int (191 : Int32)), .val (.int (2 : Int32)), .val (.int v59)] [(.int v13), (.int (2 : Int32))])) _
            refine XS.icmpYes X9.here hx rfl (pc0 := 36) (pc' := 93) rfl (hb hby own_d1_36) rfl (flt hc36_2).2.1 (by decide) (by decide) ?_
            show Steps p.tables e below (T9.setTop (mkF m 93 #[.val (.ref xarr), .val (.int (1 : Int32)), .val (.int (4 : Int32)), .val (.int v7), .val (.int v13), .val (.int (128 : Int32)), .val (.int (191 : Int32)), .val (.int (2 : Int32)), .val (.int v59)] [])) _
            refine XS.iload X9.here hx rfl (hb hby own_d1_93) rfl ?_
            show Steps p.tables e below (T9.setTop (mkF m 95 #[.val (.ref xarr), .val (.int (1 : Int32)), .val (.int (4 : Int32)), .val (.int v7), .val (.int v13), .val (.int (128 : Int32)), .val (.int (191 : Int32)), .val (.int (2 : Int32)), .val (.int v59)] [(.int v13)])) _
            exact retI X9 hx Bd.returns (hb hby own_d1_95) hr
          · show own_Q1_1_3 Z xarr xk z0 z1 z2 z3 z4 wS cS wL cL wH cH h0 n0 _ T9.heap _
            rw [e9]
            exact ⟨(by rw [ev31]), N0, rfl⟩
  · obtain ⟨fs, hr, hrun, hended, hW, hsame⟩ := X9.leave (v := some (.int v13)) (fun h => by rw [Bd.returns] at h; cases h)
    have ev32 : (own_cs 3 (z1 &&& (255 : Int32)) (z2 &&& (255 : Int32)) (z3 &&& (255 : Int32)) (z4 &&& (255 : Int32))) = v13 := by
      have hq := hv13
      simp only [own_cs, own_g2, own_g3, own_g4, ← hv7, ← hv13, ← hv20, ← hv27]
      simp [hc36]
    refine ⟨_, _, pre12 _ ?_, hrun, hended, _, _, rfl, ?_, ⟨_, rfl⟩, hW, hsame.mono (by decide) (by decide)⟩
    · show Steps p.tables e below (T9.setTop (mkF m 36 #[.val (.ref xarr), .val (.int (1 : Int32)), .val (.int (4 : Int32)), .val (.int v7), .val (.int v13), .val (.int v20), .val (.int v27), .val (.int (1 : Int32)), .unset] [(.int v13), (.int (1 : Int32))])) _
      refine XS.icmpYes X9.here hx rfl (pc0 := 36) (pc' := 93) rfl (hb hby own_d1_36) rfl (flt hc36).2.1 (by decide) (by decide) ?_
      show Steps p.tables e below (T9.setTop (mkF m 93 #[.val (.ref xarr), .val (.int (1 : Int32)), .val (.int (4 : Int32)), .val (.int v7), .val (.int v13), .val (.int v20), .val (.int v27), .val (.int (1 : Int32)), .unset] [])) _
      refine XS.iload X9.here hx rfl (hb hby own_d1_93) rfl ?_
      show Steps p.tables e below (T9.setTop (mkF m 95 #[.val (.ref xarr), .val (.int (1 : Int32)), .val (.int (4 : Int32)), .val (.int v7), .val (.int v13), .val (.int v20), .val (.int v27), .val (.int (1 : Int32)), .unset] [(.int v13)])) _
      exact retI X9 hx Bd.returns (hb hby own_d1_95) hr
    · show own_Q1_1_3 Z xarr xk z0 z1 z2 z3 z4 wS cS wL cL wH cH h0 n0 _ T9.heap _
      rw [e9]
      exact ⟨(by rw [ev32]), N0, rfl⟩
def own_Q1_1_4 (Z : State) (xarr : Addr) (xk : ClassId) (z0 : Int32) (z1 : Int32) (z2 : Int32) (z3 : Int32) (z4 : Int32) (wS : Addr) (cS : Cell) (wL : Addr) (cL : Cell) (wH : Addr) (cH : Cell) (h0 : Heap) (n0 : Nat) (v : Option Value) (h : Heap) (L : List Loc) : Prop := v = some (.int (own_cs 4 (z1 &&& (255 : Int32)) (z2 &&& (255 : Int32)) (z3 &&& (255 : Int32)) (z4 &&& (255 : Int32)))) ∧ Fr n0 L ∧ h = h0
theorem own_ef1_1_4 (m : MethodId) (xarr : Addr) : entryFrame m #[(.ref xarr), (.int (1 : Int32)), (.int (5 : Int32))] 9 = mkF m 0 #[.val (.ref xarr), .val (.int (1 : Int32)), .val (.int (5 : Int32)), .unset, .unset, .unset, .unset, .unset, .unset] [] := by first | (simp [entryFrame, mkF, argsToLocals, Value.category]; done) | rfl
set_option maxRecDepth 65536 in
set_option maxHeartbeats 40000000 in
theorem own_rm1_1_4 (l : Launch) (Z : State) (a0 : Array Value) (hw : ∀ d ∈ tables_1, d.before a0 Z = true) (ws : List Jvm.Cond) (xarr : Addr) (xk : ClassId) (z0 : Int32) (z1 : Int32) (z2 : Int32) (z3 : Int32) (z4 : Int32) (wS : Addr) (cS : Cell) (wL : Addr) (cL : Cell) (wH : Addr) (cH : Cell) (h0 : Heap) (n0 : Nat) (Z0 : n0 ≤ h0.size) (A_xarr : Arv Z h0 xarr xk .byte (5 : Int32) [(.int z0), (.int z1), (.int z2), (.int z3), (.int z4)] (.int (0 : Int32))) (S_SIZES : Sta Z h0 "com/example/stratafile/stratafile/io/Utf8" "SIZES" "[B" (.ref wS)) (R_wS : Arr Z h0 wS cS .byte) (S_SECOND_LOWEST : Sta Z h0 "com/example/stratafile/stratafile/io/Utf8" "SECOND_LOWEST" "[I" (.ref wL)) (R_wL : Arr Z h0 wL cL .int) (S_SECOND_HIGHEST : Sta Z h0 "com/example/stratafile/stratafile/io/Utf8" "SECOND_HIGHEST" "[I" (.ref wH)) (R_wH : Arr Z h0 wH cH .int) (szcS : cS.slots.size = (256 : Int32).toNatClampNeg) (tacS : ∀ j : Int32, ¬ (j < 0 ∨ cS.slots.size ≤ j.toNatClampNeg) → cS.slots[j.toNatClampNeg]? = some (.int (own_szT j))) (szcL : cL.slots.size = (256 : Int32).toNatClampNeg) (tacL : ∀ j : Int32, ¬ (j < 0 ∨ cL.slots.size ≤ j.toNatClampNeg) → cL.slots[j.toNatClampNeg]? = some (.int (own_loT j))) (szcH : cH.slots.size = (256 : Int32).toNatClampNeg) (tacH : ∀ j : Int32, ¬ (j < 0 ∨ cH.slots.size ≤ j.toNatClampNeg) → cH.slots[j.toNatClampNeg]? = some (.int (own_hiT j))) :
    MetFree l (⟨"com/example/stratafile/stratafile/io/Utf8", "characterSize", "([BII)I"⟩ : MethodName) (head1 (Jvm.Cond.code (⟨"com/example/stratafile/stratafile/io/Utf8", "characterSize", "([BII)I"⟩ : MethodName) prog_115_method_3_code 9 (some .int) :: ws) ({ frames := 0, cells := 0, slots := 0, locals := 0 } : Room)) (fun a U => a = #[(.ref xarr), (.int (1 : Int32)), (.int (5 : Int32))] ∧ Z.Warmed39 U.vm ∧ U.heap = h0) (fun _ _ _ _ _ => True) (fun _ U o U' => ∃ v L, o = .returned v ∧ own_Q1_1_4 Z xarr xk z0 z1 z2 z3 z4 wS cS wL cL wH cH h0 n0 v U'.heap L ∧ FrameEnd U o U' L ({ frames := 0, cells := 0, slots := 0, locals := 0 } : Room).cells ({ frames := 0, cells := 0, slots := 0, locals := 0 } : Room).slots) := by
  refine MetFree.of_bodySF (plainFor_of_name own_pn1) hisR ?_
  intro p e s m args below meth c s₁ Bd hml0 hP hK
  obtain ⟨rfl, hZ, hh⟩ := hP
  have hx := Bd.exec
  have hby := Bd.bytes
  have hml : c.maxLocals = 9 := hml0
  have hown : s.vm.findClass "com/example/stratafile/stratafile/io/Utf8" = some m.cls := findClass_of_methodNamed Bd.named
  have hnm := (name_of_methodNamed Bd.named Bd.method).1
  have X0 : Stand p l e ({ frames := 0, cells := 0, slots := 0, locals := 0 } : Room) s m #[(.ref xarr), (.int (1 : Int32)), (.int (5 : Int32))] below meth c s₁ [] 0 0 := Stand.of_body Bd
  have e0 : s₁.heap = h0 := by rw [← hh, Bd.state]; rfl
  have N0 := Fr.nil n0
  have pre0 : ∀ t, Steps p.tables e below (s₁.setTop (mkF m 0 #[.val (.ref xarr), .val (.int (1 : Int32)), .val (.int (5 : Int32)), .unset, .unset, .unset, .unset, .unset, .unset] [])) t → Steps p.tables e below (s₁.setTop (entryFrame m #[(.ref xarr), (.int (1 : Int32)), (.int (5 : Int32))] 9)) t := fun t k => castTop (own_ef1_1_4 m xarr) k
  obtain ⟨cl1, Ar1, q1, S1, M1, H1, G1⟩ := id A_xarr
  have in1 := inb_of S1 (j := (1 : Int32)) ⟨by decide, by decide⟩
  obtain ⟨v7, hv7⟩ : ∃ w : Int32, w = (z1 &&& (255 : Int32)) := ⟨_, rfl⟩
  have pre2 : ∀ t, Steps p.tables e below (s₁.setTop (mkF m 8 #[.val (.ref xarr), .val (.int (1 : Int32)), .val (.int (5 : Int32)), .val (.int v7), .unset, .unset, .unset, .unset, .unset] [])) t → Steps p.tables e below (s₁.setTop (entryFrame m #[(.ref xarr), (.int (1 : Int32)), (.int (5 : Int32))] 9)) t := by
    intro t k
    rw [hv7] at k
    refine pre0 _ ?_
    show Steps p.tables e below (s₁.setTop (mkF m 0 #[.val (.ref xarr), .val (.int (1 : Int32)), .val (.int (5 : Int32)), .unset, .unset, .unset, .unset, .unset, .unset] [])) _
    refine XS.aloadN X0.here hx rfl (hb hby own_d1_0) rfl rfl ?_
    show Steps p.tables e below (s₁.setTop (mkF m 1 #[.val (.ref xarr), .val (.int (1 : Int32)), .val (.int (5 : Int32)), .unset, .unset, .unset, .unset, .unset, .unset] [(.ref xarr)])) _
    refine XS.iloadN X0.here hx rfl (hb hby own_d1_1) rfl ?_
    show Steps p.tables e below (s₁.setTop (mkF m 2 #[.val (.ref xarr), .val (.int (1 : Int32)), .val (.int (5 : Int32)), .unset, .unset, .unset, .unset, .unset, .unset] [(.int (1 : Int32)), (.ref xarr)])) _
    refine X0.baloadBytes hx (j := (1 : Int32)) (v := (.int z1)) (by rw [e0]; exact Ar1.1) (State.isArrayOf_alike hZ.alike Ar1.2.1) Ar1.2.2 in1 (H1.at in1 rfl) (g := (mkF m 2 #[.val (.ref xarr), .val (.int (1 : Int32)), .val (.int (5 : Int32)), .unset, .unset, .unset, .unset, .unset, .unset] [(.int (1 : Int32)), (.ref xarr)])) rfl rfl (hb hby own_d1_2) _ ?_
    show Steps p.tables e below (s₁.setTop (mkF m 3 #[.val (.ref xarr), .val (.int (1 : Int32)), .val (.int (5 : Int32)), .unset, .unset, .unset, .unset, .unset, .unset] [(.int z1)])) _
    refine XS.sipush X0.here hx rfl (hb hby own_d1_3) ?_
    show Steps p.tables e below (s₁.setTop (mkF m 6 #[.val (.ref xarr), .val (.int (1 : Int32)), .val (.int (5 : Int32)), .unset, .unset, .unset, .unset, .unset, .unset] [(.int (255 : Int32)), (.int z1)])) _
    refine XS.iand X0.here hx rfl (hb hby own_d1_6) rfl ?_
    show Steps p.tables e below (s₁.setTop (mkF m 7 #[.val (.ref xarr), .val (.int (1 : Int32)), .val (.int (5 : Int32)), .unset, .unset, .unset, .unset, .unset, .unset] [(.int (z1 &&& (255 : Int32)))])) _
    refine XS.istoreN X0.here hx rfl (hb hby own_d1_7) rfl (l' := #[.val (.ref xarr), .val (.int (1 : Int32)), .val (.int (5 : Int32)), .val (.int (z1 &&& (255 : Int32))), .unset, .unset, .unset, .unset, .unset]) rfl ?_
    exact k
  have hv7r : ¬ v7 < 0 ∧ v7 < (256 : Int32) := by rw [hv7]; exact own_b255 _
  obtain ⟨T3, X3, e3, st3⟩ := getS2 X0 hx hZ hown (host := "") (Or.inl (hw _ (List.mem_of_getElem? (i := 5) rfl))) Via.refl e0 S_SIZES (g := (mkF m 8 #[.val (.ref xarr), .val (.int (1 : Int32)), .val (.int (5 : Int32)), .val (.int v7), .unset, .unset, .unset, .unset, .unset] [])) rfl (hb hby own_d1_8)
  have in4 : ¬ (v7 < 0 ∨ cS.slots.size ≤ (v7).toNatClampNeg) := inb_of szcS hv7r
  obtain ⟨v13, hv13⟩ : ∃ w : Int32, w = (own_szT v7) := ⟨_, rfl⟩
  have pre5 : ∀ t, Steps p.tables e below (T3.setTop (mkF m 15 #[.val (.ref xarr), .val (.int (1 : Int32)), .val (.int (5 : Int32)), .val (.int v7), .val (.int v13), .unset, .unset, .unset, .unset] [])) t → Steps p.tables e below (s₁.setTop (entryFrame m #[(.ref xarr), (.int (1 : Int32)), (.int (5 : Int32))] 9)) t := by
    intro t k
    rw [hv13] at k
    refine pre2 _ ?_
    show Steps p.tables e below (s₁.setTop (mkF m 8 #[.val (.ref xarr), .val (.int (1 : Int32)), .val (.int (5 : Int32)), .val (.int v7), .unset, .unset, .unset, .unset, .unset] [])) _
    refine st3 _ ?_
    show Steps p.tables e below (T3.setTop (mkF m 11 #[.val (.ref xarr), .val (.int (1 : Int32)), .val (.int (5 : Int32)), .val (.int v7), .unset, .unset, .unset, .unset, .unset] [(.ref wS)])) _
    refine XS.iloadN X3.here hx rfl (hb hby own_d1_11) rfl ?_
    show Steps p.tables e below (T3.setTop (mkF m 12 #[.val (.ref xarr), .val (.int (1 : Int32)), .val (.int (5 : Int32)), .val (.int v7), .unset, .unset, .unset, .unset, .unset] [(.int v7), (.ref wS)])) _
    refine X3.baloadBytes hx (j := v7) (v := (.int (own_szT v7))) (by rw [e3]; exact R_wS.1) (State.isArrayOf_alike hZ.alike R_wS.2.1) R_wS.2.2 in4 (tacS _ in4) (g := (mkF m 12 #[.val (.ref xarr), .val (.int (1 : Int32)), .val (.int (5 : Int32)), .val (.int v7), .unset, .unset, .unset, .unset, .unset] [(.int v7), (.ref wS)])) rfl rfl (hb hby own_d1_12) _ ?_
    show Steps p.tables e below (T3.setTop (mkF m 13 #[.val (.ref xarr), .val (.int (1 : Int32)), .val (.int (5 : Int32)), .val (.int v7), .unset, .unset, .unset, .unset, .unset] [(.int (own_szT v7))])) _
    refine XS.istore X3.here hx rfl (hb hby own_d1_13) rfl (l' := #[.val (.ref xarr), .val (.int (1 : Int32)), .val (.int (5 : Int32)), .val (.int v7), .val (.int (own_szT v7)), .unset, .unset, .unset, .unset]) rfl ?_
    exact k
  obtain ⟨T6, X6, e6, st6⟩ := getS2 X3 hx hZ hown (host := "") (Or.inl (hw _ (List.mem_of_getElem? (i := 7) rfl))) Via.refl e3 S_SECOND_LOWEST (g := (mkF m 15 #[.val (.ref xarr), .val (.int (1 : Int32)), .val (.int (5 : Int32)), .val (.int v7), .val (.int v13), .unset, .unset, .unset, .unset] [])) rfl (hb hby own_d1_15)
  have in7 : ¬ (v7 < 0 ∨ cL.slots.size ≤ (v7).toNatClampNeg) := inb_of szcL hv7r
  obtain ⟨v20, hv20⟩ : ∃ w : Int32, w = (own_loT v7) := ⟨_, rfl⟩
  have pre8 : ∀ t, Steps p.tables e below (T6.setTop (mkF m 22 #[.val (.ref xarr), .val (.int (1 : Int32)), .val (.int (5 : Int32)), .val (.int v7), .val (.int v13), .val (.int v20), .unset, .unset, .unset] [])) t → Steps p.tables e below (s₁.setTop (entryFrame m #[(.ref xarr), (.int (1 : Int32)), (.int (5 : Int32))] 9)) t := by
    intro t k
    rw [hv20] at k
    refine pre5 _ ?_
    show Steps p.tables e below (T3.setTop (mkF m 15 #[.val (.ref xarr), .val (.int (1 : Int32)), .val (.int (5 : Int32)), .val (.int v7), .val (.int v13), .unset, .unset, .unset, .unset] [])) _
    refine st6 _ ?_
    show Steps p.tables e below (T6.setTop (mkF m 18 #[.val (.ref xarr), .val (.int (1 : Int32)), .val (.int (5 : Int32)), .val (.int v7), .val (.int v13), .unset, .unset, .unset, .unset] [(.ref wL)])) _
    refine XS.iloadN X6.here hx rfl (hb hby own_d1_18) rfl ?_
    show Steps p.tables e below (T6.setTop (mkF m 19 #[.val (.ref xarr), .val (.int (1 : Int32)), .val (.int (5 : Int32)), .val (.int v7), .val (.int v13), .unset, .unset, .unset, .unset] [(.int v7), (.ref wL)])) _
    refine X6.iaload hx (j := v7) (v := (.int (own_loT v7))) (by rw [e6]; exact R_wL.1) (State.isArrayOf_alike hZ.alike R_wL.2.1) R_wL.2.2 in7 (tacL _ in7) (g := (mkF m 19 #[.val (.ref xarr), .val (.int (1 : Int32)), .val (.int (5 : Int32)), .val (.int v7), .val (.int v13), .unset, .unset, .unset, .unset] [(.int v7), (.ref wL)])) rfl rfl (hb hby own_d1_19) _ ?_
    show Steps p.tables e below (T6.setTop (mkF m 20 #[.val (.ref xarr), .val (.int (1 : Int32)), .val (.int (5 : Int32)), .val (.int v7), .val (.int v13), .unset, .unset, .unset, .unset] [(.int (own_loT v7))])) _
    refine XS.istore X6.here hx rfl (hb hby own_d1_20) rfl (l' := #[.val (.ref xarr), .val (.int (1 : Int32)), .val (.int (5 : Int32)), .val (.int v7), .val (.int v13), .val (.int (own_loT v7)), .unset, .unset, .unset]) rfl ?_
    exact k
  obtain ⟨T9, X9, e9, st9⟩ := getS2 X6 hx hZ hown (host := "") (Or.inl (hw _ (List.mem_of_getElem? (i := 9) rfl))) Via.refl e6 S_SECOND_HIGHEST (g := (mkF m 22 #[.val (.ref xarr), .val (.int (1 : Int32)), .val (.int (5 : Int32)), .val (.int v7), .val (.int v13), .val (.int v20), .unset, .unset, .unset] [])) rfl (hb hby own_d1_22)
  have in10 : ¬ (v7 < 0 ∨ cH.slots.size ≤ (v7).toNatClampNeg) := inb_of szcH hv7r
  obtain ⟨v27, hv27⟩ : ∃ w : Int32, w = (own_hiT v7) := ⟨_, rfl⟩
  have pre11 : ∀ t, Steps p.tables e below (T9.setTop (mkF m 29 #[.val (.ref xarr), .val (.int (1 : Int32)), .val (.int (5 : Int32)), .val (.int v7), .val (.int v13), .val (.int v20), .val (.int v27), .unset, .unset] [])) t → Steps p.tables e below (s₁.setTop (entryFrame m #[(.ref xarr), (.int (1 : Int32)), (.int (5 : Int32))] 9)) t := by
    intro t k
    rw [hv27] at k
    refine pre8 _ ?_
    show Steps p.tables e below (T6.setTop (mkF m 22 #[.val (.ref xarr), .val (.int (1 : Int32)), .val (.int (5 : Int32)), .val (.int v7), .val (.int v13), .val (.int v20), .unset, .unset, .unset] [])) _
    refine st9 _ ?_
    show Steps p.tables e below (T9.setTop (mkF m 25 #[.val (.ref xarr), .val (.int (1 : Int32)), .val (.int (5 : Int32)), .val (.int v7), .val (.int v13), .val (.int v20), .unset, .unset, .unset] [(.ref wH)])) _
    refine XS.iloadN X9.here hx rfl (hb hby own_d1_25) rfl ?_
    show Steps p.tables e below (T9.setTop (mkF m 26 #[.val (.ref xarr), .val (.int (1 : Int32)), .val (.int (5 : Int32)), .val (.int v7), .val (.int v13), .val (.int v20), .unset, .unset, .unset] [(.int v7), (.ref wH)])) _
    refine X9.iaload hx (j := v7) (v := (.int (own_hiT v7))) (by rw [e9]; exact R_wH.1) (State.isArrayOf_alike hZ.alike R_wH.2.1) R_wH.2.2 in10 (tacH _ in10) (g := (mkF m 26 #[.val (.ref xarr), .val (.int (1 : Int32)), .val (.int (5 : Int32)), .val (.int v7), .val (.int v13), .val (.int v20), .unset, .unset, .unset] [(.int v7), (.ref wH)])) rfl rfl (hb hby own_d1_26) _ ?_
    show Steps p.tables e below (T9.setTop (mkF m 27 #[.val (.ref xarr), .val (.int (1 : Int32)), .val (.int (5 : Int32)), .val (.int v7), .val (.int v13), .val (.int v20), .unset, .unset, .unset] [(.int (own_hiT v7))])) _
    refine XS.istore X9.here hx rfl (hb hby own_d1_27) rfl (l' := #[.val (.ref xarr), .val (.int (1 : Int32)), .val (.int (5 : Int32)), .val (.int v7), .val (.int v13), .val (.int v20), .val (.int (own_hiT v7)), .unset, .unset]) rfl ?_
    exact k
  have pre12 : ∀ t, Steps p.tables e below (T9.setTop (mkF m 36 #[.val (.ref xarr), .val (.int (1 : Int32)), .val (.int (5 : Int32)), .val (.int v7), .val (.int v13), .val (.int v20), .val (.int v27), .val (.int (1 : Int32)), .unset] [(.int v13), (.int (1 : Int32))])) t → Steps p.tables e below (s₁.setTop (entryFrame m #[(.ref xarr), (.int (1 : Int32)), (.int (5 : Int32))] 9)) t := by
    intro t k
    refine pre11 _ ?_
    show Steps p.tables e below (T9.setTop (mkF m 29 #[.val (.ref xarr), .val (.int (1 : Int32)), .val (.int (5 : Int32)), .val (.int v7), .val (.int v13), .val (.int v20), .val (.int v27), .unset, .unset] [])) _
    refine XS.iconst X9.here hx rfl (hb hby own_d1_29) ?_
    show Steps p.tables e below (T9.setTop (mkF m 30 #[.val (.ref xarr), .val (.int (1 : Int32)), .val (.int (5 : Int32)), .val (.int v7), .val (.int v13), .val (.int v20), .val (.int v27), .unset, .unset] [(.int (1 : Int32))])) _
    refine XS.istore X9.here hx rfl (hb hby own_d1_30) rfl (l' := #[.val (.ref xarr), .val (.int (1 : Int32)), .val (.int (5 : Int32)), .val (.int v7), .val (.int v13), .val (.int v20), .val (.int v27), .val (.int (1 : Int32)), .unset]) rfl ?_
    show Steps p.tables e below (T9.setTop (mkF m 32 #[.val (.ref xarr), .val (.int (1 : Int32)), .val (.int (5 : Int32)), .val (.int v7), .val (.int v13), .val (.int v20), .val (.int v27), .val (.int (1 : Int32)), .unset] [])) _
    refine XS.iload X9.here hx rfl (hb hby own_d1_32) rfl ?_
    show Steps p.tables e below (T9.setTop (mkF m 34 #[.val (.ref xarr), .val (.int (1 : Int32)), .val (.int (5 : Int32)), .val (.int v7), .val (.int v13), .val (.int v20), .val (.int v27), .val (.int (1 : Int32)), .unset] [(.int (1 : Int32))])) _
    refine XS.iload X9.here hx rfl (hb hby own_d1_34) rfl ?_
    exact k
  by_cases hc36 : (1 : Int32) < v13
  · have hd13 : ¬ ((2 : Int32) = (5 : Int32)) := (by decide)
    obtain ⟨cl14, Ar14, q14, S14, M14, H14, G14⟩ := id A_xarr
    have in14 := inb_of S14 (j := (2 : Int32)) ⟨by decide, by decide⟩
    obtain ⟨v59, hv59⟩ : ∃ w : Int32, w = (z2 &&& (255 : Int32)) := ⟨_, rfl⟩
    have pre15 : ∀ t, Steps p.tables e below (T9.setTop (mkF m 61 #[.val (.ref xarr), .val (.int (1 : Int32)), .val (.int (5 : Int32)), .val (.int v7), .val (.int v13), .val (.int v20), .val (.int v27), .val (.int (1 : Int32)), .val (.int v59)] [])) t → Steps p.tables e below (s₁.setTop (entryFrame m #[(.ref xarr), (.int (1 : Int32)), (.int (5 : Int32))] 9)) t := by
      intro t k
      rw [hv59] at k
      refine pre12 _ ?_
      show Steps p.tables e below (T9.setTop (mkF m 36 #[.val (.ref xarr), .val (.int (1 : Int32)), .val (.int (5 : Int32)), .val (.int v7), .val (.int v13), .val (.int v20), .val (.int v27), .val (.int (1 : Int32)), .unset] [(.int v13), (.int (1 : Int32))])) _
      refine XS.icmpNo X9.here hx rfl (hb hby own_d1_36) rfl (tlt hc36).2.1 ?_
      show Steps p.tables e below (T9.setTop (mkF m 39 #[.val (.ref xarr), .val (.int (1 : Int32)), .val (.int (5 : Int32)), .val (.int v7), .val (.int v13), .val (.int v20), .val (.int v27), .val (.int (1 : Int32)), .unset] [])) _
      refine XS.iloadN X9.here hx rfl (hb hby own_d1_39) rfl ?_
      show Steps p.tables e below (T9.setTop (mkF m 40 #[.val (.ref xarr), .val (.int (1 : Int32)), .val (.int (5 : Int32)), .val (.int v7), .val (.int v13), .val (.int v20), .val (.int v27), .val (.int (1 : Int32)), .unset] [(.int (1 : Int32))])) _
      refine XS.iload X9.here hx rfl (hb hby own_d1_40) rfl ?_
      show Steps p.tables e below (T9.setTop (mkF m 42 #[.val (.ref xarr), .val (.int (1 : Int32)), .val (.int (5 : Int32)), .val (.int v7), .val (.int v13), .val (.int v20), .val (.int v27), .val (.int (1 : Int32)), .unset] [(.int (1 : Int32)), (.int (1 : Int32))])) _
      refine XS.iadd X9.here hx rfl (hb hby own_d1_42) rfl ?_
      show Steps p.tables e below (T9.setTop (mkF m 43 #[.val (.ref xarr), .val (.int (1 : Int32)), .val (.int (5 : Int32)), .val (.int v7), .val (.int v13), .val (.int v20), .val (.int v27), .val (.int (1 : Int32)), .unset] [(.int (2 : Int32))])) _
      refine XS.iloadN X9.here hx rfl (hb hby own_d1_43) rfl ?_
      show Steps p.tables e below (T9.setTop (mkF m 44 #[.val (.ref xarr), .val (.int (1 : Int32)), .val (.int (5 : Int32)), .val (.int v7), .val (.int v13), .val (.int v20), .val (.int v27), .val (.int (1 : Int32)), .unset] [(.int (5 : Int32)), (.int (2 : Int32))])) _
      refine XS.icmpYes X9.here hx rfl (pc0 := 44) (pc' := 49) rfl (hb hby own_d1_44) rfl (feq hd13).2 (by decide) (by decide) ?_
      show Steps p.tables e below (T9.setTop (mkF m 49 #[.val (.ref xarr), .val (.int (1 : Int32)), .val (.int (5 : Int32)), .val (.int v7), .val (.int v13), .val (.int v20), .val (.int v27), .val (.int (1 : Int32)), .unset] [])) _
      refine XS.aloadN X9.here hx rfl (hb hby own_d1_49) rfl rfl ?_
      show Steps p.tables e below (T9.setTop (mkF m 50 #[.val (.ref xarr), .val (.int (1 : Int32)), .val (.int (5 : Int32)), .val (.int v7), .val (.int v13), .val (.int v20), .val (.int v27), .val (.int (1 : Int32)), .unset] [(.ref xarr)])) _
      refine XS.iloadN X9.here hx rfl (hb hby own_d1_50) rfl ?_
      show Steps p.tables e below (T9.setTop (mkF m 51 #[.val (.ref xarr), .val (.int (1 : Int32)), .val (.int (5 : Int32)), .val (.int v7), .val (.int v13), .val (.int v20), .val (.int v27), .val (.int (1 : Int32)), .unset] [(.int (1 : Int32)), (.ref xarr)])) _
      refine XS.iload X9.here hx rfl (hb hby own_d1_51) rfl ?_
      show Steps p.tables e below (T9.setTop (mkF m 53 #[.val (.ref xarr), .val (.int (1 : Int32)), .val (.int (5 : Int32)), .val (.int v7), .val (.int v13), .val (.int v20), .val (.int v27), .val (.int (1 : Int32)), .unset] [(.int (1 : Int32)), (.int (1 : Int32)), (.ref xarr)])) _
      refine XS.iadd X9.here hx rfl (hb hby own_d1_53) rfl ?_
      show Steps p.tables e below (T9.setTop (mkF m 54 #[.val (.ref xarr), .val (.int (1 : Int32)), .val (.int (5 : Int32)), .val (.int v7), .val (.int v13), .val (.int v20), .val (.int v27), .val (.int (1 : Int32)), .unset] [(.int (2 : Int32)), (.ref xarr)])) _
      refine X9.baloadBytes hx (j := (2 : Int32)) (v := (.int z2)) (by rw [e9]; exact Ar14.1) (State.isArrayOf_alike hZ.alike Ar14.2.1) Ar14.2.2 in14 (H14.at in14 rfl) (g := (mkF m 54 #[.val (.ref xarr), .val (.int (1 : Int32)), .val (.int (5 : Int32)), .val (.int v7), .val (.int v13), .val (.int v20), .val (.int v27), .val (.int (1 : Int32)), .unset] [(.int (2 : Int32)), (.ref xarr)])) rfl rfl (hb hby own_d1_54) _ ?_
      show Steps p.tables e below (T9.setTop (mkF m 55 #[.val (.ref xarr), .val (.int (1 : Int32)), .val (.int (5 : Int32)), .val (.int v7), .val (.int v13), .val (.int v20), .val (.int v27), .val (.int (1 : Int32)), .unset] [(.int z2)])) _
      refine XS.sipush X9.here hx rfl (hb hby own_d1_55) ?_
      show Steps p.tables e below (T9.setTop (mkF m 58 #[.val (.ref xarr), .val (.int (1 : Int32)), .val (.int (5 : Int32)), .val (.int v7), .val (.int v13), .val (.int v20), .val (.int v27), .val (.int (1 : Int32)), .unset] [(.int (255 : Int32)), (.int z2)])) _
      refine XS.iand X9.here hx rfl (hb hby own_d1_58) rfl ?_
      show Steps p.tables e below (T9.setTop (mkF m 59 #[.val (.ref xarr), .val (.int (1 : Int32)), .val (.int (5 : Int32)), .val (.int v7), .val (.int v13), .val (.int v20), .val (.int v27), .val (.int (1 : Int32)), .unset] [(.int (z2 &&& (255 : Int32)))])) _
      refine XS.istore X9.here hx rfl (hb hby own_d1_59) rfl (l' := #[.val (.ref xarr), .val (.int (1 : Int32)), .val (.int (5 : Int32)), .val (.int v7), .val (.int v13), .val (.int v20), .val (.int v27), .val (.int (1 : Int32)), .val (.int (z2 &&& (255 : Int32)))]) rfl ?_
      exact k
    have pre16 : ∀ t, Steps p.tables e below (T9.setTop (mkF m 65 #[.val (.ref xarr), .val (.int (1 : Int32)), .val (.int (5 : Int32)), .val (.int v7), .val (.int v13), .val (.int v20), .val (.int v27), .val (.int (1 : Int32)), .val (.int v59)] [(.int v20), (.int v59)])) t → Steps p.tables e below (s₁.setTop (entryFrame m #[(.ref xarr), (.int (1 : Int32)), (.int (5 : Int32))] 9)) t := by
      intro t k
      refine pre15 _ ?_
      show Steps p.tables e below (T9.setTop (mkF m 61 #[.val (.ref xarr), .val (.int (1 : Int32)), .val (.int (5 : Int32)), .val (.int v7), .val (.int v13), .val (.int v20), .val (.int v27), .val (.int (1 : Int32)), .val (.int v59)] [])) _
      refine XS.iload X9.here hx rfl (hb hby own_d1_61) rfl ?_
      show Steps p.tables e below (T9.setTop (mkF m 63 #[.val (.ref xarr), .val (.int (1 : Int32)), .val (.int (5 : Int32)), .val (.int v7), .val (.int v13), .val (.int v20), .val (.int v27), .val (.int (1 : Int32)), .val (.int v59)] [(.int v59)])) _
      refine XS.iload X9.here hx rfl (hb hby own_d1_63) rfl ?_
      exact k
    by_cases hc65 : v59 < v20
    · obtain ⟨fs, hr, hrun, hended, hW, hsame⟩ := X9.leave (v := some (.int (-1 : Int32))) (fun h => by rw [Bd.returns] at h; cases h)
      have ev17 : (own_cs 4 (z1 &&& (255 : Int32)) (z2 &&& (255 : Int32)) (z3 &&& (255 : Int32)) (z4 &&& (255 : Int32))) = (-1 : Int32) := by
        have hq := hv13
        simp only [own_cs, own_g2, own_g3, own_g4, ← hv7, ← hv13, ← hv20, ← hv27, ← hv59]
        simp [hc36, hc65]
      refine ⟨_, _, pre16 _ ?_, hrun, hended, _, _, rfl, ?_, ⟨_, rfl⟩, hW, hsame.mono (by decide) (by decide)⟩
      · show Steps p.tables e below (T9.setTop (mkF m 65 #[.val (.ref xarr), .val (.int (1 : Int32)), .val (.int (5 : Int32)), .val (.int v7), .val (.int v13), .val (.int v20), .val (.int v27), .val (.int (1 : Int32)), .val (.int v59)] [(.int v20), (.int v59)])) _
        refine XS.icmpYes X9.here hx rfl (pc0 := 65) (pc' := 75) rfl (hb hby own_d1_65) rfl (tlt hc65).1 (by decide) (by decide) ?_
        show Steps p.tables e below (T9.setTop (mkF m 75 #[.val (.ref xarr), .val (.int (1 : Int32)), .val (.int (5 : Int32)), .val (.int v7), .val (.int v13), .val (.int v20), .val (.int v27), .val (.int (1 : Int32)), .val (.int v59)] [])) _
        refine XS.iconst X9.here hx rfl (hb hby own_d1_75) ?_
        show Steps p.tables e below (T9.setTop (mkF m 76 #[.val (.ref xarr), .val (.int (1 : Int32)), .val (.int (5 : Int32)), .val (.int v7), .val (.int v13), .val (.int v20), .val (.int v27), .val (.int (1 : Int32)), .val (.int v59)] [(.int (-1 : Int32))])) _
        exact retI X9 hx Bd.returns (hb hby own_d1_76) hr
      · show own_Q1_1_4 Z xarr xk z0 z1 z2 z3 z4 wS cS wL cL wH cH h0 n0 _ T9.heap _
        rw [e9]
        exact ⟨(by rw [ev17]), N0, rfl⟩
    · have pre18 : ∀ t, Steps p.tables e below (T9.setTop (mkF m 72 #[.val (.ref xarr), .val (.int (1 : Int32)), .val (.int (5 : Int32)), .val (.int v7), .val (.int v13), .val (.int v20), .val (.int v27), .val (.int (1 : Int32)), .val (.int v59)] [(.int v27), (.int v59)])) t → Steps p.tables e below (s₁.setTop (entryFrame m #[(.ref xarr), (.int (1 : Int32)), (.int (5 : Int32))] 9)) t := by
        intro t k
        refine pre16 _ ?_
        show Steps p.tables e below (T9.setTop (mkF m 65 #[.val (.ref xarr), .val (.int (1 : Int32)), .val (.int (5 : Int32)), .val (.int v7), .val (.int v13), .val (.int v20), .val (.int v27), .val (.int (1 : Int32)), .val (.int v59)] [(.int v20), (.int v59)])) _
        refine XS.icmpNo X9.here hx rfl (hb hby own_d1_65) rfl (flt hc65).1 ?_
        show Steps p.tables e below (T9.setTop (mkF m 68 #[.val (.ref xarr), .val (.int (1 : Int32)), .val (.int (5 : Int32)), .val (.int v7), .val (.int v13), .val (.int v20), .val (.int v27), .val (.int (1 : Int32)), .val (.int v59)] [])) _
        refine XS.iload X9.here hx rfl (hb hby own_d1_68) rfl ?_
        show Steps p.tables e below (T9.setTop (mkF m 70 #[.val (.ref xarr), .val (.int (1 : Int32)), .val (.int (5 : Int32)), .val (.int v7), .val (.int v13), .val (.int v20), .val (.int v27), .val (.int (1 : Int32)), .val (.int v59)] [(.int v59)])) _
        refine XS.iload X9.here hx rfl (hb hby own_d1_70) rfl ?_
        exact k
      by_cases hc72 : v27 < v59
      · obtain ⟨fs, hr, hrun, hended, hW, hsame⟩ := X9.leave (v := some (.int (-1 : Int32))) (fun h => by rw [Bd.returns] at h; cases h)
        have ev19 : (own_cs 4 (z1 &&& (255 : Int32)) (z2 &&& (255 : Int32)) (z3 &&& (255 : Int32)) (z4 &&& (255 : Int32))) = (-1 : Int32) := by
          have hq := hv13
          simp only [own_cs, own_g2, own_g3, own_g4, ← hv7, ← hv13, ← hv20, ← hv27, ← hv59]
          simp [hc36, hc65, hc72]
        refine ⟨_, _, pre18 _ ?_, hrun, hended, _, _, rfl, ?_, ⟨_, rfl⟩, hW, hsame.mono (by decide) (by decide)⟩
        · show Steps p.tables e below (T9.setTop (mkF m 72 #[.val (.ref xarr), .val (.int (1 : Int32)), .val (.int (5 : Int32)), .val (.int v7), .val (.int v13), .val (.int v20), .val (.int v27), .val (.int (1 : Int32)), .val (.int v59)] [(.int v27), (.int v59)])) _
          refine XS.icmpNo X9.here hx rfl (hb hby own_d1_72) rfl (tlt hc72).2.2.2 ?_
          show Steps p.tables e below (T9.setTop (mkF m 75 #[.val (.ref xarr), .val (.int (1 : Int32)), .val (.int (5 : Int32)), .val (.int v7), .val (.int v13), .val (.int v20), .val (.int v27), .val (.int (1 : Int32)), .val (.int v59)] [])) _
          refine XS.iconst X9.here hx rfl (hb hby own_d1_75) ?_
          show Steps p.tables e below (T9.setTop (mkF m 76 #[.val (.ref xarr), .val (.int (1 : Int32)), .val (.int (5 : Int32)), .val (.int v7), .val (.int v13), .val (.int v20), .val (.int v27), .val (.int (1 : Int32)), .val (.int v59)] [(.int (-1 : Int32))])) _
          exact retI X9 hx Bd.returns (hb hby own_d1_76) hr
        · show own_Q1_1_4 Z xarr xk z0 z1 z2 z3 z4 wS cS wL cL wH cH h0 n0 _ T9.heap _
          rw [e9]
          exact ⟨(by rw [ev19]), N0, rfl⟩
      · have pre20 : ∀ t, Steps p.tables e below (T9.setTop (mkF m 36 #[.val (.ref xarr), .val (.int (1 : Int32)), .val (.int (5 : Int32)), .val (.int v7), .val (.int v13), .val (.int (128 : Int32)), .val (.int (191 : Int32)), .val (.int (2 : Int32)), .val (.int v59)] [(.int v13), (.int (2 : Int32))])) t → Steps p.tables e below (s₁.setTop (entryFrame m #[(.ref xarr), (.int (1 : Int32)), (.int (5 : Int32))] 9)) t := by
          intro t k
          refine pre18 _ ?_
          show Steps p.tables e below (T9.setTop (mkF m 72 #[.val (.ref xarr), .val (.int (1 : Int32)), .val (.int (5 : Int32)), .val (.int v7), .val (.int v13), .val (.int v20), .val (.int v27), .val (.int (1 : Int32)), .val (.int v59)] [(.int v27), (.int v59)])) _
          refine XS.icmpYes X9.here hx rfl (pc0 := 72) (pc' := 77) rfl (hb hby own_d1_72) rfl (flt hc72).2.2.2 (by decide) (by decide) ?_
          show Steps p.tables e below (T9.setTop (mkF m 77 #[.val (.ref xarr), .val (.int (1 : Int32)), .val (.int (5 : Int32)), .val (.int v7), .val (.int v13), .val (.int v20), .val (.int v27), .val (.int (1 : Int32)), .val (.int v59)] [])) _
          refine XS.sipush X9.here hx rfl (hb hby own_d1_77) ?_
          show Steps p.tables e below (T9.setTop (mkF m 80 #[.val (.ref xarr), .val (.int (1 : Int32)), .val (.int (5 : Int32)), .val (.int v7), .val (.int v13), .val (.int v20), .val (.int v27), .val (.int (1 : Int32)), .val (.int v59)] [(.int (128 : Int32))])) _
          refine XS.istore X9.here hx rfl (hb hby own_d1_80) rfl (l' := #[.val (.ref xarr), .val (.int (1 : Int32)), .val (.int (5 : Int32)), .val (.int v7), .val (.int v13), .val (.int (128 : Int32)), .val (.int v27), .val (.int (1 : Int32)), .val (.int v59)]) rfl ?_
          show Steps p.tables e below (T9.setTop (mkF m 82 #[.val (.ref xarr), .val (.int (1 : Int32)), .val (.int (5 : Int32)), .val (.int v7), .val (.int v13), .val (.int (128 : Int32)), .val (.int v27), .val (.int (1 : Int32)), .val (.int v59)] [])) _
          refine XS.sipush X9.here hx rfl (hb hby own_d1_82) ?_
          show Steps p.tables e below (T9.setTop (mkF m 85 #[.val (.ref xarr), .val (.int (1 : Int32)), .val (.int (5 : Int32)), .val (.int v7), .val (.int v13), .val (.int (128 : Int32)), .val (.int v27), .val (.int (1 : Int32)), .val (.int v59)] [(.int (191 : Int32))])) _
          refine XS.istore X9.here hx rfl (hb hby own_d1_85) rfl (l' := #[.val (.ref xarr), .val (.int (1 : Int32)), .val (.int (5 : Int32)), .val (.int v7), .val (.int v13), .val (.int (128 : Int32)), .val (.int (191 : Int32)), .val (.int (1 : Int32)), .val (.int v59)]) rfl ?_
          show Steps p.tables e below (T9.setTop (mkF m 87 #[.val (.ref xarr), .val (.int (1 : Int32)), .val (.int (5 : Int32)), .val (.int v7), .val (.int v13), .val (.int (128 : Int32)), .val (.int (191 : Int32)), .val (.int (1 : Int32)), .val (.int v59)] [])) _
          refine XS.iinc X9.here hx rfl (hb hby own_d1_87) rfl (l' := #[.val (.ref xarr), .val (.int (1 : Int32)), .val (.int (5 : Int32)), .val (.int v7), .val (.int v13), .val (.int (128 : Int32)), .val (.int (191 : Int32)), .val (.int (2 : Int32)), .val (.int v59)]) rfl ?_
          show Steps p.tables e below (T9.setTop (mkF m 90 #[.val (.ref xarr), .val (.int (1 : Int32)), .val (.int (5 : Int32)), .val (.int v7), .val (.int v13), .val (.int (128 : Int32)), .val (.int (191 : Int32)), .val (.int (2 : Int32)), .val (.int v59)] [])) _
          refine XS.goto X9.here hx rfl (pc0 := 90) (pc' := 32) rfl (hb hby own_d1_90) (by decide) (by decide) ?_
          show Steps p.tables e below (T9.setTop (mkF m 32 #[.val (.ref xarr), .val (.int (1 : Int32)), .val (.int (5 : Int32)), .val (.int v7), .val (.int v13), .val (.int (128 : Int32)), .val (.int (191 : Int32)), .val (.int (2 : Int32)), .val (.int v59)] [])) _
          refine XS.iload X9.here hx rfl (hb hby own_d1_32) rfl ?_
          show Steps p.tables e below (T9.setTop (mkF m 34 #[.val (.ref xarr), .val (.int (1 : Int32)), .val (.int (5 : Int32)), .val (.int v7), .val (.int v13), .val (.int (128 : Int32)), .val (.int (191 : Int32)), .val (.int (2 : Int32)), .val (.int v59)] [(.int (2 : Int32))])) _
          refine XS.iload X9.here hx rfl (hb hby own_d1_34) rfl ?_
          exact k
        by_cases hc36_2 : (2 : Int32) < v13
        · have hd21 : ¬ ((3 : Int32) = (5 : Int32)) := (by decide)
          obtain ⟨cl22, Ar22, q22, S22, M22, H22, G22⟩ := id A_xarr
          have in22 := inb_of S22 (j := (3 : Int32)) ⟨by decide, by decide⟩
          obtain ⟨v59_1, hv59_1⟩ : ∃ w : Int32, w = (z3 &&& (255 : Int32)) := ⟨_, rfl⟩
          have pre23 : ∀ t, Steps p.tables e below (T9.setTop (mkF m 61 #[.val (.ref xarr), .val (.int (1 : Int32)), .val (.int (5 : Int32)), .val (.int v7), .val (.int v13), .val (.int (128 : Int32)), .val (.int (191 : Int32)), .val (.int (2 : Int32)), .val (.int v59_1)] [])) t → Steps p.tables e below (s₁.setTop (entryFrame m #[(.ref xarr), (.int (1 : Int32)), (.int (5 : Int32))] 9)) t := by
            intro t k
            rw [hv59_1] at k
            refine pre20 _ ?_
            show Steps p.tables e below (T9.setTop (mkF m 36 #[.val (.ref xarr), .val (.int (1 : Int32)), .val (.int (5 : Int32)), .val (.int v7), .val (.int v13), .val (.int (128 : Int32)), .val (.int (191 : Int32)), .val (.int (2 : Int32)), .val (.int v59)] [(.int v13), (.int (2 : Int32))])) _
            refine XS.icmpNo X9.here hx rfl (hb hby own_d1_36) rfl (tlt hc36_2).2.1 ?_
            show Steps p.tables e below (T9.setTop (mkF m 39 #[.val (.ref xarr), .val (.int (1 : Int32)), .val (.int (5 : Int32)), .val (.int v7), .val (.int v13), .val (.int (128 : Int32)), .val (.int (191 : Int32)), .val (.int (2 : Int32)), .val (.int v59)] [])) _
            refine XS.iloadN X9.here hx rfl (hb hby own_d1_39) rfl ?_
            show Steps p.tables e below (T9.setTop (mkF m 40 #[.val (.ref xarr), .val (.int (1 : Int32)), .val (.int (5 : Int32)), .val (.int v7), .val (.int v13), .val (.int (128 : Int32)), .val (.int (191 : Int32)), .val (.int (2 : Int32)), .val (.int v59)] [(.int (1 : Int32))])) _
            refine XS.iload X9.here hx rfl (hb hby own_d1_40) rfl ?_
            show Steps p.tables e below (T9.setTop (mkF m 42 #[.val (.ref xarr), .val (.int (1 : Int32)), .val (.int (5 : Int32)), .val (.int v7), .val (.int v13), .val (.int (128 : Int32)), .val (.int (191 : Int32)), .val (.int (2 : Int32)), .val (.int v59)] [(.int (2 : Int32)), (.int (1 : Int32))])) _
            refine XS.iadd X9.here hx rfl (hb hby own_d1_42) rfl ?_
            show Steps p.tables e below (T9.setTop (mkF m 43 #[.val (.ref xarr), .val (.int (1 : Int32)), .val (.int (5 : Int32)), .val (.int v7), .val (.int v13), .val (.int (128 : Int32)), .val (.int (191 : Int32)), .val (.int (2 : Int32)), .val (.int v59)] [(.int (3 : Int32))])) _
            refine XS.iloadN X9.here hx rfl (hb hby own_d1_43) rfl ?_
            show Steps p.tables e below (T9.setTop (mkF m 44 #[.val (.ref xarr), .val (.int (1 : Int32)), .val (.int (5 : Int32)), .val (.int v7), .val (.int v13), .val (.int (128 : Int32)), .val (.int (191 : Int32)), .val (.int (2 : Int32)), .val (.int v59)] [(.int (5 : Int32)), (.int (3 : Int32))])) _
            refine XS.icmpYes X9.here hx rfl (pc0 := 44) (pc' := 49) rfl (hb hby own_d1_44) rfl (feq hd21).2 (by decide) (by decide) ?_
            show Steps p.tables e below (T9.setTop (mkF m 49 #[.val (.ref xarr), .val (.int (1 : Int32)), .val (.int (5 : Int32)), .val (.int v7), .val (.int v13), .val (.int (128 : Int32)), .val (.int (191 : Int32)), .val (.int (2 : Int32)), .val (.int v59)] [])) _
            refine XS.aloadN X9.here hx rfl (hb hby own_d1_49) rfl rfl ?_
            show Steps p.tables e below (T9.setTop (mkF m 50 #[.val (.ref xarr), .val (.int (1 : Int32)), .val (.int (5 : Int32)), .val (.int v7), .val (.int v13), .val (.int (128 : Int32)), .val (.int (191 : Int32)), .val (.int (2 : Int32)), .val (.int v59)] [(.ref xarr)])) _
            refine XS.iloadN X9.here hx rfl (hb hby own_d1_50) rfl ?_
            show Steps p.tables e below (T9.setTop (mkF m 51 #[.val (.ref xarr), .val (.int (1 : Int32)), .val (.int (5 : Int32)), .val (.int v7), .val (.int v13), .val (.int (128 : Int32)), .val (.int (191 : Int32)), .val (.int (2 : Int32)), .val (.int v59)] [(.int (1 : Int32)), (.ref xarr)])) _
            refine XS.iload X9.here hx rfl (hb hby own_d1_51) rfl ?_
            show Steps p.tables e below (T9.setTop (mkF m 53 #[.val (.ref xarr), .val (.int (1 : Int32)), .val (.int (5 : Int32)), .val (.int v7), .val (.int v13), .val (.int (128 : Int32)), .val (.int (191 : Int32)), .val (.int (2 : Int32)), .val (.int v59)] [(.int (2 : Int32)), (.int (1 : Int32)), (.ref xarr)])) _
            refine XS.iadd X9.here hx rfl (hb hby own_d1_53) rfl ?_
            show Steps p.tables e below (T9.setTop (mkF m 54 #[.val (.ref xarr), .val (.int (1 : Int32)), .val (.int (5 : Int32)), .val (.int v7), .val (.int v13), .val (.int (128 : Int32)), .val (.int (191 : Int32)), .val (.int (2 : Int32)), .val (.int v59)] [(.int (3 : Int32)), (.ref xarr)])) _
            refine X9.baloadBytes hx (j := (3 : Int32)) (v := (.int z3)) (by rw [e9]; exact Ar22.1) (State.isArrayOf_alike hZ.alike Ar22.2.1) Ar22.2.2 in22 (H22.at in22 rfl) (g := (mkF m 54 #[.val (.ref xarr), .val (.int (1 : Int32)), .val (.int (5 : Int32)), .val (.int v7), .val (.int v13), .val (.int (128 : Int32)), .val (.int (191 : Int32)), .val (.int (2 : Int32)), .val (.int v59)] [(.int (3 : Int32)), (.ref xarr)])) rfl rfl (hb hby own_d1_54) _ ?_
            show Steps p.tables e below (T9.setTop (mkF m 55 #[.val (.ref xarr), .val (.int (1 : Int32)), .val (.int (5 : Int32)), .val (.int v7), .val (.int v13), .val (.int (128 : Int32)), .val (.int (191 : Int32)), .val (.int (2 : Int32)), .val (.int v59)] [(.int z3)])) _
            refine XS.sipush X9.here hx rfl (hb hby own_d1_55) ?_
            show Steps p.tables e below (T9.setTop (mkF m 58 #[.val (.ref xarr), .val (.int (1 : Int32)), .val (.int (5 : Int32)), .val (.int v7), .val (.int v13), .val (.int (128 : Int32)), .val (.int (191 : Int32)), .val (.int (2 : Int32)), .val (.int v59)] [(.int (255 : Int32)), (.int z3)])) _
            refine XS.iand X9.here hx rfl (hb hby own_d1_58) rfl ?_
            show Steps p.tables e below (T9.setTop (mkF m 59 #[.val (.ref xarr), .val (.int (1 : Int32)), .val (.int (5 : Int32)), .val (.int v7), .val (.int v13), .val (.int (128 : Int32)), .val (.int (191 : Int32)), .val (.int (2 : Int32)), .val (.int v59)] [(.int (z3 &&& (255 : Int32)))])) _
            refine XS.istore X9.here hx rfl (hb hby own_d1_59) rfl (l' := #[.val (.ref xarr), .val (.int (1 : Int32)), .val (.int (5 : Int32)), .val (.int v7), .val (.int v13), .val (.int (128 : Int32)), .val (.int (191 : Int32)), .val (.int (2 : Int32)), .val (.int (z3 &&& (255 : Int32)))]) rfl ?_
            exact k
          have pre24 : ∀ t, Steps p.tables e below (T9.setTop (mkF m 65 #[.val (.ref xarr), .val (.int (1 : Int32)), .val (.int (5 : Int32)), .val (.int v7), .val (.int v13), .val (.int (128 : Int32)), .val (.int (191 : Int32)), .val (.int (2 : Int32)), .val (.int v59_1)] [(.int (128 : Int32)), (.int v59_1)])) t → Steps p.tables e below (s₁.setTop (entryFrame m #[(.ref xarr), (.int (1 : Int32)), (.int (5 : Int32))] 9)) t := by
            intro t k
            refine pre23 _ ?_
            show Steps p.tables e below (T9.setTop (mkF m 61 #[.val (.ref xarr), .val (.int (1 : Int32)), .val (.int (5 : Int32)), .val (.int v7), .val (.int v13), .val (.int (128 : Int32)), .val (.int (191 : Int32)), .val (.int (2 : Int32)), .val (.int v59_1)] [])) _
            refine XS.iload X9.here hx rfl (hb hby own_d1_61) rfl ?_
            show Steps p.tables e below (T9.setTop (mkF m 63 #[.val (.ref xarr), .val (.int (1 : Int32)), .val (.int (5 : Int32)), .val (.int v7), .val (.int v13), .val (.int (128 : Int32)), .val (.int (191 : Int32)), .val (.int (2 : Int32)), .val (.int v59_1)] [(.int v59_1)])) _
            refine XS.iload X9.here hx rfl (hb hby own_d1_63) rfl ?_
            exact k
          by_cases hc65_2 : v59_1 < (128 : Int32)
          · obtain ⟨fs, hr, hrun, hended, hW, hsame⟩ := X9.leave (v := some (.int (-1 : Int32))) (fun h => by rw [Bd.returns] at h; cases h)
            have ev25 : (own_cs 4 (z1 &&& (255 : Int32)) (z2 &&& (255 : Int32)) (z3 &&& (255 : Int32)) (z4 &&& (255 : Int32))) = (-1 : Int32) := by
              have hq := hv13
              simp only [own_cs, own_g2, own_g3, own_g4, ← hv7, ← hv13, ← hv20, ← hv27, ← hv59, ← hv59_1]
              simp [hc36, hc65, hc72, hc36_2, hc65_2]
            refine ⟨_, _, pre24 _ ?_, hrun, hended, _, _, rfl, ?_, ⟨_, rfl⟩, hW, hsame.mono (by decide) (by decide)⟩
            · show Steps p.tables e below (T9.setTop (mkF m 65 #[.val (.ref xarr), .val (.int (1 : Int32)), .val (.int (5 : Int32)), .val (.int v7), .val (.int v13), .val (.int (128 : Int32)), .val (.int (191 : Int32)), .val (.int (2 : Int32)), .val (.int v59_1)] [(.int (128 : Int32)), (.int v59_1)])) _
              refine XS.icmpYes X9.here hx rfl (pc0 := 65) (pc' := 75) rfl (hb hby own_d1_65) rfl (tlt hc65_2).1 (by decide) (by decide) ?_
              show Steps p.tables e below (T9.setTop (mkF m 75 #[.val (.ref xarr), .val (.int (1 : Int32)), .val (.int (5 : Int32)), .val (.int v7), .val (.int v13), .val (.int (128 : Int32)), .val (.int (191 : Int32)), .val (.int (2 : Int32)), .val (.int v59_1)] [])) _
              refine XS.iconst X9.here hx rfl (hb hby own_d1_75) ?_
              show Steps p.tables e below (T9.setTop (mkF m 76 #[.val (.ref xarr), .val (.int (1 : Int32)), .val (.int (5 : Int32)), .val (.int v7), .val (.int v13), .val (.int (128 : Int32)), .val (.int (191 : Int32)), .val (.int (2 : Int32)), .val (.int v59_1)] [(.int (-1 : Int32))])) _
              exact retI X9 hx Bd.returns (hb hby own_d1_76) hr
            · show own_Q1_1_4 Z xarr xk z0 z1 z2 z3 z4 wS cS wL cL wH cH h0 n0 _ T9.heap _
              rw [e9]
              exact ⟨(by rw [ev25]), N0, rfl⟩
          · have pre26 : ∀ t, Steps p.tables e below (T9.setTop (mkF m 72 #[.val (.ref xarr), .val (.int (1 : Int32)), .val (.int (5 : Int32)), .val (.int v7), .val (.int v13), .val (.int (128 : Int32)), .val (.int (191 : Int32)), .val (.int (2 : Int32)), .val (.int v59_1)] [(.int (191 : Int32)), (.int v59_1)])) t → Steps p.tables e below (s₁.setTop (entryFrame m #[(.ref xarr), (.int (1 : Int32)), (.int (5 : Int32))] 9)) t := by
              intro t k
              refine pre24 _ ?_
              show Steps p.tables e below (T9.setTop (mkF m 65 #[.val (.ref xarr), .val (.int (1 : Int32)), .val (.int (5 : Int32)), .val (.int v7), .val (.int v13), .val (.int (128 : Int32)), .val (.int (191 : Int32)), .val (.int (2 : Int32)), .val (.int v59_1)] [(.int (128 : Int32)), (.int v59_1)])) _
              refine XS.icmpNo X9.here hx rfl (hb hby own_d1_65) rfl (flt hc65_2).1 ?_
              show Steps p.tables e below (T9.setTop (mkF m 68 #[.val (.ref xarr), .val (.int (1 : Int32)), .val (.int (5 : Int32)), .val (.int v7), .val (.int v13), .val (.int (128 : Int32)), .val (.int (191 : Int32)), .val (.int (2 : Int32)), .val (.int v59_1)] [])) _
              refine XS.iload X9.here hx rfl (hb hby own_d1_68) rfl ?_
              show Steps p.tables e below (T9.setTop (mkF m 70 #[.val (.ref xarr), .val (.int (1 : Int32)), .val (.int (5 : Int32)), .val (.int v7), .val (.int v13), .val (.int (128 : Int32)), .val (.int (191 : Int32)), .val (.int (2 : Int32)), .val (.int v59_1)] [(.int v59_1)])) _
              refine XS.iload X9.here hx rfl (hb hby own_d1_70) rfl ?_
              exact k
            by_cases hc72_2 : (191 : Int32) < v59_1
            · obtain ⟨fs, hr, hrun, hended, hW, hsame⟩ := X9.leave (v := some (.int (-1 : Int32))) (fun h => by rw [Bd.returns] at h; cases h)
              have ev27 : (own_cs 4 (z1 &&& (255 : Int32)) (z2 &&& (255 : Int32)) (z3 &&& (255 : Int32)) (z4 &&& (255 : Int32))) = (-1 : Int32) := by
                have hq := hv13
                simp only [own_cs, own_g2, own_g3, own_g4, ← hv7, ← hv13, ← hv20, ← hv27, ← hv59, ← hv59_1]
                simp [hc36, hc65, hc72, hc36_2, hc65_2, hc72_2]
              refine ⟨_, _, pre26 _ ?_, hrun, hended, _, _, rfl, ?_, ⟨_, rfl⟩, hW, hsame.mono (by decide) (by decide)⟩
              · show Steps p.tables e below (T9.setTop (mkF m 72 #[.val (.ref xarr), .val (.int (1 : Int32)), .val (.int (5 : Int32)), .val (.int v7), .val (.int v13), .val (.int (128 : Int32)), .val (.int (191 : Int32)), .val (.int (2 : Int32)), .val (.int v59_1)] [(.int (191 : Int32)), (.int v59_1)])) _
                refine XS.icmpNo X9.here hx rfl (hb hby own_d1_72) rfl (tlt hc72_2).2.2.2 ?_
                show Steps p.tables e below (T9.setTop (mkF m 75 #[.val (.ref xarr), .val (.int (1 : Int32)), .val (.int (5 : Int32)), .val (.int v7), .val (.int v13), .val (.int (128 : Int32)), .val (.int (191 : Int32)), .val (.int (2 : Int32)), .val (.int v59_1)] [])) _
                refine XS.iconst X9.here hx rfl (hb hby own_d1_75) ?_
                show Steps p.tables e below (T9.setTop (mkF m 76 #[.val (.ref xarr), .val (.int (1 : Int32)), .val (.int (5 : Int32)), .val (.int v7), .val (.int v13), .val (.int (128 : Int32)), .val (.int (191 : Int32)), .val (.int (2 : Int32)), .val (.int v59_1)] [(.int (-1 : Int32))])) _
                exact retI X9 hx Bd.returns (hb hby own_d1_76) hr
              · show own_Q1_1_4 Z xarr xk z0 z1 z2 z3 z4 wS cS wL cL wH cH h0 n0 _ T9.heap _
                rw [e9]
                exact ⟨(by rw [ev27]), N0, rfl⟩
            · have pre28 : ∀ t, Steps p.tables e below (T9.setTop (mkF m 36 #[.val (.ref xarr), .val (.int (1 : Int32)), .val (.int (5 : Int32)), .val (.int v7), .val (.int v13), .val (.int (128 : Int32)), .val (.int (191 : Int32)), .val (.int (3 : Int32)), .val (.int v59_1)] [(.int v13), (.int (3 : Int32))])) t → Steps p.tables e below (s₁.setTop (entryFrame m #[(.ref xarr), (.int (1 : Int32)), (.int (5 : Int32))] 9)) t := by
                intro t k
                refine pre26 _ ?_
                show Steps p.tables e below (T9.setTop (mkF m 72 #[.val (.ref xarr), .val (.int (1 : Int32)), .val (.int (5 : Int32)), .val (.int v7), .val (.int v13), .val (.int (128 : Int32)), .val (.int (191 : Int32)), .val (.int (2 : Int32)), .val (.int v59_1)] [(.int (191 : Int32)), (.int v59_1)])) _
                refine XS.icmpYes X9.here hx rfl (pc0 := 72) (pc' := 77) rfl (hb hby own_d1_72) rfl (flt hc72_2).2.2.2 (by decide) (by decide) ?_
                show Steps p.tables e below (T9.setTop (mkF m 77 #[.val (.ref xarr), .val (.int (1 : Int32)), .val (.int (5 : Int32)), .val (.int v7), .val (.int v13), .val (.int (128 : Int32)), .val (.int (191 : Int32)), .val (.int (2 : Int32)), .val (.int v59_1)] [])) _
                refine XS.sipush X9.here hx rfl (hb hby own_d1_77) ?_
                show Steps p.tables e below (T9.setTop (mkF m 80 #[.val (.ref xarr), .val (.int (1 : Int32)), .val (.int (5 : Int32)), .val (.int v7), .val (.int v13), .val (.int (128 : Int32)), .val (.int (191 : Int32)), .val (.int (2 : Int32)), .val (.int v59_1)] [(.int (128 : Int32))])) _
                refine XS.istore X9.here hx rfl (hb hby own_d1_80) rfl (l' := #[.val (.ref xarr), .val (.int (1 : Int32)), .val (.int (5 : Int32)), .val (.int v7), .val (.int v13), .val (.int (128 : Int32)), .val (.int (191 : Int32)), .val (.int (2 : Int32)), .val (.int v59_1)]) rfl ?_
                show Steps p.tables e below (T9.setTop (mkF m 82 #[.val (.ref xarr), .val (.int (1 : Int32)), .val (.int (5 : Int32)), .val (.int v7), .val (.int v13), .val (.int (128 : Int32)), .val (.int (191 : Int32)), .val (.int (2 : Int32)), .val (.int v59_1)] [])) _
                refine XS.sipush X9.here hx rfl (hb hby own_d1_82) ?_
                show Steps p.tables e below (T9.setTop (mkF m 85 #[.val (.ref xarr), .val (.int (1 : Int32)), .val (.int (5 : Int32)), .val (.int v7), .val (.int v13), .val (.int (128 : Int32)), .val (.int (191 : Int32)), .val (.int (2 : Int32)), .val (.int v59_1)] [(.int (191 : Int32))])) _
                refine XS.istore X9.here hx rfl (hb hby own_d1_85) rfl (l' := #[.val (.ref xarr), .val (.int (1 : Int32)), .val (.int (5 : Int32)), .val (.int v7), .val (.int v13), .val (.int (128 : Int32)), .val (.int (191 : Int32)), .val (.int (2 : Int32)), .val (.int v59_1)]) rfl ?_
                show Steps p.tables e below (T9.setTop (mkF m 87 #[.val (.ref xarr), .val (.int (1 : Int32)), .val (.int (5 : Int32)), .val (.int v7), .val (.int v13), .val (.int (128 : Int32)), .val (.int (191 : Int32)), .val (.int (2 : Int32)), .val (.int v59_1)] [])) _
                refine XS.iinc X9.here hx rfl (hb hby own_d1_87) rfl (l' := #[.val (.ref xarr), .val (.int (1 : Int32)), .val (.int (5 : Int32)), .val (.int v7), .val (.int v13), .val (.int (128 : Int32)), .val (.int (191 : Int32)), .val (.int (3 : Int32)), .val (.int v59_1)]) rfl ?_
                show Steps p.tables e below (T9.setTop (mkF m 90 #[.val (.ref xarr), .val (.int (1 : Int32)), .val (.int (5 : Int32)), .val (.int v7), .val (.int v13), .val (.int (128 : Int32)), .val (.int (191 : Int32)), .val (.int (3 : Int32)), .val (.int v59_1)] [])) _
                refine XS.goto X9.here hx rfl (pc0 := 90) (pc' := 32) rfl (hb hby own_d1_90) (by decide) (by decide) ?_
                show Steps p.tables e below (T9.setTop (mkF m 32 #[.val (.ref xarr), .val (.int (1 : Int32)), .val (.int (5 : Int32)), .val (.int v7), .val (.int v13), .val (.int (128 : Int32)), .val (.int (191 : Int32)), .val (.int (3 : Int32)), .val (.int v59_1)] [])) _
                refine XS.iload X9.here hx rfl (hb hby own_d1_32) rfl ?_
                show Steps p.tables e below (T9.setTop (mkF m 34 #[.val (.ref xarr), .val (.int (1 : Int32)), .val (.int (5 : Int32)), .val (.int v7), .val (.int v13), .val (.int (128 : Int32)), .val (.int (191 : Int32)), .val (.int (3 : Int32)), .val (.int v59_1)] [(.int (3 : Int32))])) _
                refine XS.iload X9.here hx rfl (hb hby own_d1_34) rfl ?_
                exact k
              by_cases hc36_3 : (3 : Int32) < v13
              · have hd29 : ¬ ((4 : Int32) = (5 : Int32)) := (by decide)
                obtain ⟨cl30, Ar30, q30, S30, M30, H30, G30⟩ := id A_xarr
                have in30 := inb_of S30 (j := (4 : Int32)) ⟨by decide, by decide⟩
                obtain ⟨v59_2, hv59_2⟩ : ∃ w : Int32, w = (z4 &&& (255 : Int32)) := ⟨_, rfl⟩
                have pre31 : ∀ t, Steps p.tables e below (T9.setTop (mkF m 61 #[.val (.ref xarr), .val (.int (1 : Int32)), .val (.int (5 : Int32)), .val (.int v7), .val (.int v13), .val (.int (128 : Int32)), .val (.int (191 : Int32)), .val (.int (3 : Int32)), .val (.int v59_2)] [])) t → Steps p.tables e below (s₁.setTop (entryFrame m #[(.ref xarr), (.int (1 : Int32)), (.int (5 : Int32))] 9)) t := by
                  intro t k
                  rw [hv59_2] at k
                  refine pre28 _ ?_
                  show Steps p.tables e below (T9.setTop (mkF m 36 #[.val (.ref xarr), .val (.int (1 : Int32)), .val (.int (5 : Int32)), .val (.int v7), .val (.int v13), .val (.int (128 : Int32)), .val (.int (191 : Int32)), .val (.int (3 : Int32)), .val (.int v59_1)] [(.int v13), (.int (3 : Int32))])) _
                  refine XS.icmpNo X9.here hx rfl (hb hby own_d1_36) rfl (tlt hc36_3).2.1 ?_
                  show Steps p.tables e below (T9.setTop (mkF m 39 #[.val (.ref xarr), .val (.int (1 : Int32)), .val (.int (5 : Int32)), .val (.int v7), .val (.int v13), .val (.int (128 : Int32)), .val (.int (191 : Int32)), .val (.int (3 : Int32)), .val (.int v59_1)] [])) _
                  refine XS.iloadN X9.here hx rfl (hb hby own_d1_39) rfl ?_
                  show Steps p.tables e below (T9.setTop (mkF m 40 #[.val (.ref xarr), .val (.int (1 : Int32)), .val (.int (5 : Int32)), .val (.int v7), .val (.int v13), .val (.int (128 : Int32)), .val (.int (191 : Int32)), .val (.int (3 : Int32)), .val (.int v59_1)] [(.int (1 : Int32))])) _
                  refine XS.iload X9.here hx rfl (hb hby own_d1_40) rfl ?_
                  show Steps p.tables e below (T9.setTop (mkF m 42 #[.val (.ref xarr), .val (.int (1 : Int32)), .val (.int (5 : Int32)), .val (.int v7), .val (.int v13), .val (.int (128 : Int32)), .val (.int (191 : Int32)), .val (.int (3 : Int32)), .val (.int v59_1)] [(.int (3 : Int32)), (.int (1 : Int32))])) _
                  refine XS.iadd X9.here hx rfl (hb hby own_d1_42) rfl ?_
                  show Steps p.tables e below (T9.setTop (mkF m 43 #[.val (.ref xarr), .val (.int (1 : Int32)), .val (.int (5 : Int32)), .val (.int v7), .val (.int v13), .val (.int (128 : Int32)), .val (.int (191 : Int32)), .val (.int (3 : Int32)), .val (.int v59_1)] [(.int (4 : Int32))])) _
                  refine XS.iloadN X9.here hx rfl (hb hby own_d1_43) rfl ?_
                  show Steps p.tables e below (T9.setTop (mkF m 44 #[.val (.ref xarr), .val (.int (1 : Int32)), .val (.int (5 : Int32)), .val (.int v7), .val (.int v13), .val (.int (128 : Int32)), .val (.int (191 : Int32)), .val (.int (3 : Int32)), .val (.int v59_1)] [(.int (5 : Int32)), (.int (4 : Int32))])) _
                  refine XS.icmpYes X9.here hx rfl (pc0 := 44) (pc' := 49) rfl (hb hby own_d1_44) rfl (feq hd29).2 (by decide) (by decide) ?_
                  show Steps p.tables e below (T9.setTop (mkF m 49 #[.val (.ref xarr), .val (.int (1 : Int32)), .val (.int (5 : Int32)), .val (.int v7), .val (.int v13), .val (.int (128 : Int32)), .val (.int (191 : Int32)), .val (.int (3 : Int32)), .val (.int v59_1)] [])) _
                  refine XS.aloadN X9.here hx rfl (hb hby own_d1_49) rfl rfl ?_
                  show Steps p.tables e below (T9.setTop (mkF m 50 #[.val (.ref xarr), .val (.int (1 : Int32)), .val (.int (5 : Int32)), .val (.int v7), .val (.int v13), .val (.int (128 : Int32)), .val (.int (191 : Int32)), .val (.int (3 : Int32)), .val (.int v59_1)] [(.ref xarr)])) _
                  refine XS.iloadN X9.here hx rfl (hb hby own_d1_50) rfl ?_
                  show Steps p.tables e below (T9.setTop (mkF m 51 #[.val (.ref xarr), .val (.int (1 : Int32)), .val (.int (5 : Int32)), .val (.int v7), .val (.int v13), .val (.int (128 : Int32)), .val (.int (191 : Int32)), .val (.int (3 : Int32)), .val (.int v59_1)] [(.int (1 : Int32)), (.ref xarr)])) _
                  refine XS.iload X9.here hx rfl (hb hby own_d1_51) rfl ?_
                  show Steps p.tables e below (T9.setTop (mkF m 53 #[.val (.ref xarr), .val (.int (1 : Int32)), .val (.int (5 : Int32)), .val (.int v7), .val (.int v13), .val (.int (128 : Int32)), .val (.int (191 : Int32)), .val (.int (3 : Int32)), .val (.int v59_1)] [(.int (3 : Int32)), (.int (1 : Int32)), (.ref xarr)])) _
                  refine XS.iadd X9.here hx rfl (hb hby own_d1_53) rfl ?_
                  show Steps p.tables e below (T9.setTop (mkF m 54 #[.val (.ref xarr), .val (.int (1 : Int32)), .val (.int (5 : Int32)), .val (.int v7), .val (.int v13), .val (.int (128 : Int32)), .val (.int (191 : Int32)), .val (.int (3 : Int32)), .val (.int v59_1)] [(.int (4 : Int32)), (.ref xarr)])) _
                  refine X9.baloadBytes hx (j := (4 : Int32)) (v := (.int z4)) (by rw [e9]; exact Ar30.1) (State.isArrayOf_alike hZ.alike Ar30.2.1) Ar30.2.2 in30 (H30.at in30 rfl) (g := (mkF m 54 #[.val (.ref xarr), .val (.int (1 : Int32)), .val (.int (5 : Int32)), .val (.int v7), .val (.int v13), .val (.int (128 : Int32)), .val (.int (191 : Int32)), .val (.int (3 : Int32)), .val (.int v59_1)] [(.int (4 : Int32)), (.ref xarr)])) rfl rfl (hb hby own_d1_54) _ ?_
                  show Steps p.tables e below (T9.setTop (mkF m 55 #[.val (.ref xarr), .val (.int (1 : Int32)), .val (.int (5 : Int32)), .val (.int v7), .val (.int v13), .val (.int (128 : Int32)), .val (.int (191 : Int32)), .val (.int (3 : Int32)), .val (.int v59_1)] [(.int z4)])) _
                  refine XS.sipush X9.here hx rfl (hb hby own_d1_55) ?_
                  show Steps p.tables e below (T9.setTop (mkF m 58 #[.val (.ref xarr), .val (.int (1 : Int32)), .val (.int (5 : Int32)), .val (.int v7), .val (.int v13), .val (.int (128 : Int32)), .val (.int (191 : Int32)), .val (.int (3 : Int32)), .val (.int v59_1)] [(.int (255 : Int32)), (.int z4)])) _
                  refine XS.iand X9.here hx rfl (hb hby own_d1_58) rfl ?_
                  show Steps p.tables e below (T9.setTop (mkF m 59 #[.val (.ref xarr), .val (.int (1 : Int32)), .val (.int (5 : Int32)), .val (.int v7), .val (.int v13), .val (.int (128 : Int32)), .val (.int (191 : Int32)), .val (.int (3 : Int32)), .val (.int v59_1)] [(.int (z4 &&& (255 : Int32)))])) _
                  refine XS.istore X9.here hx rfl (hb hby own_d1_59) rfl (l' := #[.val (.ref xarr), .val (.int (1 : Int32)), .val (.int (5 : Int32)), .val (.int v7), .val (.int v13), .val (.int (128 : Int32)), .val (.int (191 : Int32)), .val (.int (3 : Int32)), .val (.int (z4 &&& (255 : Int32)))]) rfl ?_
                  exact k
                have pre32 : ∀ t, Steps p.tables e below (T9.setTop (mkF m 65 #[.val (.ref xarr), .val (.int (1 : Int32)), .val (.int (5 : Int32)), .val (.int v7), .val (.int v13), .val (.int (128 : Int32)), .val (.int (191 : Int32)), .val (.int (3 : Int32)), .val (.int v59_2)] [(.int (128 : Int32)), (.int v59_2)])) t → Steps p.tables e below (s₁.setTop (entryFrame m #[(.ref xarr), (.int (1 : Int32)), (.int (5 : Int32))] 9)) t := by
                  intro t k
                  refine pre31 _ ?_
                  show Steps p.tables e below (T9.setTop (mkF m 61 #[.val (.ref xarr), .val (.int (1 : Int32)), .val (.int (5 : Int32)), .val (.int v7), .val (.int v13), .val (.int (128 : Int32)), .val (.int (191 : Int32)), .val (.int (3 : Int32)), .val (.int v59_2)] [])) _
                  refine XS.iload X9.here hx rfl (hb hby own_d1_61) rfl ?_
                  show Steps p.tables e below (T9.setTop (mkF m 63 #[.val (.ref xarr), .val (.int (1 : Int32)), .val (.int (5 : Int32)), .val (.int v7), .val (.int v13), .val (.int (128 : Int32)), .val (.int (191 : Int32)), .val (.int (3 : Int32)), .val (.int v59_2)] [(.int v59_2)])) _
                  refine XS.iload X9.here hx rfl (hb hby own_d1_63) rfl ?_
                  exact k
                by_cases hc65_3 : v59_2 < (128 : Int32)
                · obtain ⟨fs, hr, hrun, hended, hW, hsame⟩ := X9.leave (v := some (.int (-1 : Int32))) (fun h => by rw [Bd.returns] at h; cases h)
                  have ev33 : (own_cs 4 (z1 &&& (255 : Int32)) (z2 &&& (255 : Int32)) (z3 &&& (255 : Int32)) (z4 &&& (255 : Int32))) = (-1 : Int32) := by
                    have hq := hv13
                    simp only [own_cs, own_g2, own_g3, own_g4, ← hv7, ← hv13, ← hv20, ← hv27, ← hv59, ← hv59_1, ← hv59_2]
                    simp [hc36, hc65, hc72, hc36_2, hc65_2, hc72_2, hc36_3, hc65_3]
                  refine ⟨_, _, pre32 _ ?_, hrun, hended, _, _, rfl, ?_, ⟨_, rfl⟩, hW, hsame.mono (by decide) (by decide)⟩
                  · show Steps p.tables e below (T9.setTop (mkF m 65 #[.val (.ref xarr), .val (.int (1 : Int32)), .val (.int (5 : Int32)), .val (.int v7), .val (.int v13), .val (.int (128 : Int32)), .val (.int (191 : Int32)), .val (.int (3 : Int32)), .val (.int v59_2)] [(.int (128 : Int32)), (.int v59_2)])) _
                    refine XS.icmpYes X9.here hx rfl (pc0 := 65) (pc' := 75) rfl (hb hby own_d1_65) rfl (tlt hc65_3).1 (by decide) (by decide) ?_
                    show Steps p.tables e below (T9.setTop (mkF m 75 #[.val (.ref xarr), .val (.int (1 : Int32)), .val (.int (5 : Int32)), .val (.int v7), .val (.int v13), .val (.int (128 : Int32)), .val (.int (191 : Int32)), .val (.int (3 : Int32)), .val (.int v59_2)] [])) _
                    refine XS.iconst X9.here hx rfl (hb hby own_d1_75) ?_
                    show Steps p.tables e below (T9.setTop (mkF m 76 #[.val (.ref xarr), .val (.int (1 : Int32)), .val (.int (5 : Int32)), .val (.int v7), .val (.int v13), .val (.int (128 : Int32)), .val (.int (191 : Int32)), .val (.int (3 : Int32)), .val (.int v59_2)] [(.int (-1 : Int32))])) _
                    exact retI X9 hx Bd.returns (hb hby own_d1_76) hr
                  · show own_Q1_1_4 Z xarr xk z0 z1 z2 z3 z4 wS cS wL cL wH cH h0 n0 _ T9.heap _
                    rw [e9]
                    exact ⟨(by rw [ev33]), N0, rfl⟩
                · have pre34 : ∀ t, Steps p.tables e below (T9.setTop (mkF m 72 #[.val (.ref xarr), .val (.int (1 : Int32)), .val (.int (5 : Int32)), .val (.int v7), .val (.int v13), .val (.int (128 : Int32)), .val (.int (191 : Int32)), .val (.int (3 : Int32)), .val (.int v59_2)] [(.int (191 : Int32)), (.int v59_2)])) t → Steps p.tables e below (s₁.setTop (entryFrame m #[(.ref xarr), (.int (1 : Int32)), (.int (5 : Int32))] 9)) t := by
                    intro t k
                    refine pre32 _ ?_
                    show Steps p.tables e below (T9.setTop (mkF m 65 #[.val (.ref xarr), .val (.int (1 : Int32)), .val (.int (5 : Int32)), .val (.int v7), .val (.int v13), .val (.int (128 : Int32)), .val (.int (191 : Int32)), .val (.int (3 : Int32)), .val (.int v59_2)] [(.int (128 : Int32)), (.int v59_2)])) _
                    refine XS.icmpNo X9.here hx rfl (hb hby own_d1_65) rfl (flt hc65_3).1 ?_
                    show Steps p.tables e below (T9.setTop (mkF m 68 #[.val (.ref xarr), .val (.int (1 : Int32)), .val (.int (5 : Int32)), .val (.int v7), .val (.int v13), .val (.int (128 : Int32)), .val (.int (191 : Int32)), .val (.int (3 : Int32)), .val (.int v59_2)] [])) _
                    refine XS.iload X9.here hx rfl (hb hby own_d1_68) rfl ?_
                    show Steps p.tables e below (T9.setTop (mkF m 70 #[.val (.ref xarr), .val (.int (1 : Int32)), .val (.int (5 : Int32)), .val (.int v7), .val (.int v13), .val (.int (128 : Int32)), .val (.int (191 : Int32)), .val (.int (3 : Int32)), .val (.int v59_2)] [(.int v59_2)])) _
                    refine XS.iload X9.here hx rfl (hb hby own_d1_70) rfl ?_
                    exact k
                  by_cases hc72_3 : (191 : Int32) < v59_2
                  · obtain ⟨fs, hr, hrun, hended, hW, hsame⟩ := X9.leave (v := some (.int (-1 : Int32))) (fun h => by rw [Bd.returns] at h; cases h)
                    have ev35 : (own_cs 4 (z1 &&& (255 : Int32)) (z2 &&& (255 : Int32)) (z3 &&& (255 : Int32)) (z4 &&& (255 : Int32))) = (-1 : Int32) := by
                      have hq := hv13
                      simp only [own_cs, own_g2, own_g3, own_g4, ← hv7, ← hv13, ← hv20, ← hv27, ← hv59, ← hv59_1, ← hv59_2]
                      simp [hc36, hc65, hc72, hc36_2, hc65_2, hc72_2, hc36_3, hc65_3, hc72_3]
                    refine ⟨_, _, pre34 _ ?_, hrun, hended, _, _, rfl, ?_, ⟨_, rfl⟩, hW, hsame.mono (by decide) (by decide)⟩
                    · show Steps p.tables e below (T9.setTop (mkF m 72 #[.val (.ref xarr), .val (.int (1 : Int32)), .val (.int (5 : Int32)), .val (.int v7), .val (.int v13), .val (.int (128 : Int32)), .val (.int (191 : Int32)), .val (.int (3 : Int32)), .val (.int v59_2)] [(.int (191 : Int32)), (.int v59_2)])) _
                      refine XS.icmpNo X9.here hx rfl (hb hby own_d1_72) rfl (tlt hc72_3).2.2.2 ?_
                      show Steps p.tables e below (T9.setTop (mkF m 75 #[.val (.ref xarr), .val (.int (1 : Int32)), .val (.int (5 : Int32)), .val (.int v7), .val (.int v13), .val (.int (128 : Int32)), .val (.int (191 : Int32)), .val (.int (3 : Int32)), .val (.int v59_2)] [])) _
                      refine XS.iconst X9.here hx rfl (hb hby own_d1_75) ?_
                      show Steps p.tables e below (T9.setTop (mkF m 76 #[.val (.ref xarr), .val (.int (1 : Int32)), .val (.int (5 : Int32)), .val (.int v7), .val (.int v13), .val (.int (128 : Int32)), .val (.int (191 : Int32)), .val (.int (3 : Int32)), .val (.int v59_2)] [(.int (-1 : Int32))])) _
                      exact retI X9 hx Bd.returns (hb hby own_d1_76) hr
                    · show own_Q1_1_4 Z xarr xk z0 z1 z2 z3 z4 wS cS wL cL wH cH h0 n0 _ T9.heap _
                      rw [e9]
                      exact ⟨(by rw [ev35]), N0, rfl⟩
                  · have pre36 : ∀ t, Steps p.tables e below (T9.setTop (mkF m 36 #[.val (.ref xarr), .val (.int (1 : Int32)), .val (.int (5 : Int32)), .val (.int v7), .val (.int v13), .val (.int (128 : Int32)), .val (.int (191 : Int32)), .val (.int (4 : Int32)), .val (.int v59_2)] [(.int v13), (.int (4 : Int32))])) t → Steps p.tables e below (s₁.setTop (entryFrame m #[(.ref xarr), (.int (1 : Int32)), (.int (5 : Int32))] 9)) t := by
                      intro t k
                      refine pre34 _ ?_
                      show Steps p.tables e below (T9.setTop (mkF m 72 #[.val (.ref xarr), .val (.int (1 : Int32)), .val (.int (5 : Int32)), .val (.int v7), .val (.int v13), .val (.int (128 : Int32)), .val (.int (191 : Int32)), .val (.int (3 : Int32)), .val (.int v59_2)] [(.int (191 : Int32)), (.int v59_2)])) _
                      refine XS.icmpYes X9.here hx rfl (pc0 := 72) (pc' := 77) rfl (hb hby own_d1_72) rfl (flt hc72_3).2.2.2 (by decide) (by decide) ?_
                      show Steps p.tables e below (T9.setTop (mkF m 77 #[.val (.ref xarr), .val (.int (1 : Int32)), .val (.int (5 : Int32)), .val (.int v7), .val (.int v13), .val (.int (128 : Int32)), .val (.int (191 : Int32)), .val (.int (3 : Int32)), .val (.int v59_2)] [])) _
                      refine XS.sipush X9.here hx rfl (hb hby own_d1_77) ?_
                      show Steps p.tables e below (T9.setTop (mkF m 80 #[.val (.ref xarr), .val (.int (1 : Int32)), .val (.int (5 : Int32)), .val (.int v7), .val (.int v13), .val (.int (128 : Int32)), .val (.int (191 : Int32)), .val (.int (3 : Int32)), .val (.int v59_2)] [(.int (128 : Int32))])) _
                      refine XS.istore X9.here hx rfl (hb hby own_d1_80) rfl (l' := #[.val (.ref xarr), .val (.int (1 : Int32)), .val (.int (5 : Int32)), .val (.int v7), .val (.int v13), .val (.int (128 : Int32)), .val (.int (191 : Int32)), .val (.int (3 : Int32)), .val (.int v59_2)]) rfl ?_
                      show Steps p.tables e below (T9.setTop (mkF m 82 #[.val (.ref xarr), .val (.int (1 : Int32)), .val (.int (5 : Int32)), .val (.int v7), .val (.int v13), .val (.int (128 : Int32)), .val (.int (191 : Int32)), .val (.int (3 : Int32)), .val (.int v59_2)] [])) _
                      refine XS.sipush X9.here hx rfl (hb hby own_d1_82) ?_
                      show Steps p.tables e below (T9.setTop (mkF m 85 #[.val (.ref xarr), .val (.int (1 : Int32)), .val (.int (5 : Int32)), .val (.int v7), .val (.int v13), .val (.int (128 : Int32)), .val (.int (191 : Int32)), .val (.int (3 : Int32)), .val (.int v59_2)] [(.int (191 : Int32))])) _
                      refine XS.istore X9.here hx rfl (hb hby own_d1_85) rfl (l' := #[.val (.ref xarr), .val (.int (1 : Int32)), .val (.int (5 : Int32)), .val (.int v7), .val (.int v13), .val (.int (128 : Int32)), .val (.int (191 : Int32)), .val (.int (3 : Int32)), .val (.int v59_2)]) rfl ?_
                      show Steps p.tables e below (T9.setTop (mkF m 87 #[.val (.ref xarr), .val (.int (1 : Int32)), .val (.int (5 : Int32)), .val (.int v7), .val (.int v13), .val (.int (128 : Int32)), .val (.int (191 : Int32)), .val (.int (3 : Int32)), .val (.int v59_2)] [])) _
                      refine XS.iinc X9.here hx rfl (hb hby own_d1_87) rfl (l' := #[.val (.ref xarr), .val (.int (1 : Int32)), .val (.int (5 : Int32)), .val (.int v7), .val (.int v13), .val (.int (128 : Int32)), .val (.int (191 : Int32)), .val (.int (4 : Int32)), .val (.int v59_2)]) rfl ?_
                      show Steps p.tables e below (T9.setTop (mkF m 90 #[.val (.ref xarr), .val (.int (1 : Int32)), .val (.int (5 : Int32)), .val (.int v7), .val (.int v13), .val (.int (128 : Int32)), .val (.int (191 : Int32)), .val (.int (4 : Int32)), .val (.int v59_2)] [])) _
                      refine XS.goto X9.here hx rfl (pc0 := 90) (pc' := 32) rfl (hb hby own_d1_90) (by decide) (by decide) ?_
                      show Steps p.tables e below (T9.setTop (mkF m 32 #[.val (.ref xarr), .val (.int (1 : Int32)), .val (.int (5 : Int32)), .val (.int v7), .val (.int v13), .val (.int (128 : Int32)), .val (.int (191 : Int32)), .val (.int (4 : Int32)), .val (.int v59_2)] [])) _
                      refine XS.iload X9.here hx rfl (hb hby own_d1_32) rfl ?_
                      show Steps p.tables e below (T9.setTop (mkF m 34 #[.val (.ref xarr), .val (.int (1 : Int32)), .val (.int (5 : Int32)), .val (.int v7), .val (.int v13), .val (.int (128 : Int32)), .val (.int (191 : Int32)), .val (.int (4 : Int32)), .val (.int v59_2)] [(.int (4 : Int32))])) _
                      refine XS.iload X9.here hx rfl (hb hby own_d1_34) rfl ?_
                      exact k
                    by_cases hc36_4 : (4 : Int32) < v13
                    · obtain ⟨fs, hr, hrun, hended, hW, hsame⟩ := X9.leave (v := some (.int (0 : Int32))) (fun h => by rw [Bd.returns] at h; cases h)
                      have ev37 : (own_cs 4 (z1 &&& (255 : Int32)) (z2 &&& (255 : Int32)) (z3 &&& (255 : Int32)) (z4 &&& (255 : Int32))) = (0 : Int32) := by
                        have hq := hv13
                        simp only [own_cs, own_g2, own_g3, own_g4, ← hv7, ← hv13, ← hv20, ← hv27, ← hv59, ← hv59_1, ← hv59_2]
                        simp [hc36, hc65, hc72, hc36_2, hc65_2, hc72_2, hc36_3, hc65_3, hc72_3, hc36_4]
                      refine ⟨_, _, pre36 _ ?_, hrun, hended, _, _, rfl, ?_, ⟨_, rfl⟩, hW, hsame.mono (by decide) (by decide)⟩
                      · show Steps p.tables e below (T9.setTop (mkF m 36 #[.val (.ref xarr), .val (.int (1 : Int32)), .val (.int (5 : Int32)), .val (.int v7), .val (.int v13), .val (.int (128 : Int32)), .val (.int (191 : Int32)), .val (.int (4 : Int32)), .val (.int v59_2)] [(.int v13), (.int (4 : Int32))])) _
                        refine XS.icmpNo X9.here hx rfl (hb hby own_d1_36) rfl (tlt hc36_4).2.1 ?_
                        show Steps p.tables e below (T9.setTop (mkF m 39 #[.val (.ref xarr), .val (.int (1 : Int32)), .val (.int (5 : Int32)), .val (.int v7), .val (.int v13), .val (.int (128 : Int32)), .val (.int (191 : Int32)), .val (.int (4 : Int32)), .val (.int v59_2)] [])) _
                        refine XS.iloadN X9.here hx rfl (hb hby own_d1_39) rfl ?_
                        show Steps p.tables e below (T9.setTop (mkF m 40 #[.val (.ref xarr), .val (.int (1 : Int32)), .val (.int (5 : Int32)), .val (.int v7), .val (.int v13), .val (.int (128 : Int32)), .val (.int (191 : Int32)), .val (.int (4 : Int32)), .val (.int v59_2)] [(.int (1 : Int32))])) _
                        refine XS.iload X9.here hx rfl (hb hby own_d1_40) rfl ?_
                        show Steps p.tables e below (T9.setTop (mkF m 42 #[.val (.ref xarr), .val (.int (1 : Int32)), .val (.int (5 : Int32)), .val (.int v7), .val (.int v13), .val (.int (128 : Int32)), .val (.int (191 : Int32)), .val (.int (4 : Int32)), .val (.int v59_2)] [(.int (4 : Int32)), (.int (1 : Int32))])) _
                        refine XS.iadd X9.here hx rfl (hb hby own_d1_42) rfl ?_
                        show Steps p.tables e below (T9.setTop (mkF m 43 #[.val (.ref xarr), .val (.int (1 : Int32)), .val (.int (5 : Int32)), .val (.int v7), .val (.int v13), .val (.int (128 : Int32)), .val (.int (191 : Int32)), .val (.int (4 : Int32)), .val (.int v59_2)] [(.int (5 : Int32))])) _
                        refine XS.iloadN X9.here hx rfl (hb hby own_d1_43) rfl ?_
                        show Steps p.tables e below (T9.setTop (mkF m 44 #[.val (.ref xarr), .val (.int (1 : Int32)), .val (.int (5 : Int32)), .val (.int v7), .val (.int v13), .val (.int (128 : Int32)), .val (.int (191 : Int32)), .val (.int (4 : Int32)), .val (.int v59_2)] [(.int (5 : Int32)), (.int (5 : Int32))])) _
                        refine XS.icmpNo X9.here hx rfl (hb hby own_d1_44) rfl (teq rfl).2 ?_
                        show Steps p.tables e below (T9.setTop (mkF m 47 #[.val (.ref xarr), .val (.int (1 : Int32)), .val (.int (5 : Int32)), .val (.int v7), .val (.int v13), .val (.int (128 : Int32)), .val (.int (191 : Int32)), .val (.int (4 : Int32)), .val (.int v59_2)] [])) _
                        refine XS.iconst X9.here hx rfl (hb hby own_d1_47) ?_
                        show Steps p.tables e below (T9.setTop (mkF m 48 #[.val (.ref xarr), .val (.int (1 : Int32)), .val (.int (5 : Int32)), .val (.int v7), .val (.int v13), .val (.int (128 : Int32)), .val (.int (191 : Int32)), .val (.int (4 : Int32)), .val (.int v59_2)] [(.int (0 : Int32))])) _
                        exact retI X9 hx Bd.returns (hb hby own_d1_48) hr
                      · show own_Q1_1_4 Z xarr xk z0 z1 z2 z3 z4 wS cS wL cL wH cH h0 n0 _ T9.heap _
                        rw [e9]
                        exact ⟨(by rw [ev37]), N0, rfl⟩
                    · obtain ⟨fs, hr, hrun, hended, hW, hsame⟩ := X9.leave (v := some (.int v13)) (fun h => by rw [Bd.returns] at h; cases h)
                      have ev38 : (own_cs 4 (z1 &&& (255 : Int32)) (z2 &&& (255 : Int32)) (z3 &&& (255 : Int32)) (z4 &&& (255 : Int32))) = v13 := by
                        have hq := hv13
                        simp only [own_cs, own_g2, own_g3, own_g4, ← hv7, ← hv13, ← hv20, ← hv27, ← hv59, ← hv59_1, ← hv59_2]
                        simp [hc36, hc65, hc72, hc36_2, hc65_2, hc72_2, hc36_3, hc65_3, hc72_3, hc36_4]
                      refine ⟨_, _, pre36 _ ?_, hrun, hended, _, _, rfl, ?_, ⟨_, rfl⟩, hW, hsame.mono (by decide) (by decide)⟩
                      · show Steps p.tables e below (T9.setTop (mkF m 36 #[.val (.ref xarr), .val (.int (1 : Int32)), .val (.int (5 : Int32)), .val (.int v7), .val (.int v13), .val (.int (128 : Int32)), .val (.int (191 : Int32)), .val (.int (4 : Int32)), .val (.int v59_2)] [(.int v13), (.int (4 : Int32))])) _
                        refine XS.icmpYes X9.here hx rfl (pc0 := 36) (pc' := 93) rfl (hb hby own_d1_36) rfl (flt hc36_4).2.1 (by decide) (by decide) ?_
                        show Steps p.tables e below (T9.setTop (mkF m 93 #[.val (.ref xarr), .val (.int (1 : Int32)), .val (.int (5 : Int32)), .val (.int v7), .val (.int v13), .val (.int (128 : Int32)), .val (.int (191 : Int32)), .val (.int (4 : Int32)), .val (.int v59_2)] [])) _
                        refine XS.iload X9.here hx rfl (hb hby own_d1_93) rfl ?_
                        show Steps p.tables e below (T9.setTop (mkF m 95 #[.val (.ref xarr), .val (.int (1 : Int32)), .val (.int (5 : Int32)), .val (.int v7), .val (.int v13), .val (.int (128 : Int32)), .val (.int (191 : Int32)), .val (.int (4 : Int32)), .val (.int v59_2)] [(.int v13)])) _
                        exact retI X9 hx Bd.returns (hb hby own_d1_95) hr
                      · show own_Q1_1_4 Z xarr xk z0 z1 z2 z3 z4 wS cS wL cL wH cH h0 n0 _ T9.heap _
                        rw [e9]
                        exact ⟨(by rw [ev38]), N0, rfl⟩
              · obtain ⟨fs, hr, hrun, hended, hW, hsame⟩ := X9.leave (v := some (.int v13)) (fun h => by rw [Bd.returns] at h; cases h)
                have ev39 : (own_cs 4 (z1 &&& (255 : Int32)) (z2 &&& (255 : Int32)) (z3 &&& (255 : Int32)) (z4 &&& (255 : Int32))) = v13 := by
                  have hq := hv13
                  simp only [own_cs, own_g2, own_g3, own_g4, ← hv7, ← hv13, ← hv20, ← hv27, ← hv59, ← hv59_1]
                  simp [hc36, hc65, hc72, hc36_2, hc65_2, hc72_2, hc36_3]
                refine ⟨_, _, pre28 _ ?_, hrun, hended, _, _, rfl, ?_, ⟨_, rfl⟩, hW, hsame.mono (by decide) (by decide)⟩
                · show Steps p.tables e below (T9.setTop (mkF m 36 #[.val (.ref xarr), .val (.int (1 : Int32)), .val (.int (5 : Int32)), .val (.int v7), .val (.int v13), .val (.int (128 : Int32)), .val (.int (191 : Int32)), .val (.int (3 : Int32)), .val (.int v59_1)] [(.int v13), (.int (3 : Int32))])) _
                  refine XS.icmpYes X9.here hx rfl (pc0 := 36) (pc' := 93) rfl (hb hby own_d1_36) rfl (flt hc36_3).2.1 (by decide) (by decide) ?_
                  show Steps p.tables e below (T9.setTop (mkF m 93 #[.val (.ref xarr), .val (.int (1 : Int32)), .val (.int (5 : Int32)), .val (.int v7), .val (.int v13), .val (.int (128 : Int32)), .val (.int (191 : Int32)), .val (.int (3 : Int32)), .val (.int v59_1)] [])) _
                  refine XS.iload X9.here hx rfl (hb hby own_d1_93) rfl ?_
                  show Steps p.tables e below (T9.setTop (mkF m 95 #[.val (.ref xarr), .val (.int (1 : Int32)), .val (.int (5 : Int32)), .val (.int v7), .val (.int v13), .val (.int (128 : Int32)), .val (.int (191 : Int32)), .val (.int (3 : Int32)), .val (.int v59_1)] [(.int v13)])) _
                  exact retI X9 hx Bd.returns (hb hby own_d1_95) hr
                · show own_Q1_1_4 Z xarr xk z0 z1 z2 z3 z4 wS cS wL cL wH cH h0 n0 _ T9.heap _
                  rw [e9]
                  exact ⟨(by rw [ev39]), N0, rfl⟩
        · obtain ⟨fs, hr, hrun, hended, hW, hsame⟩ := X9.leave (v := some (.int v13)) (fun h => by rw [Bd.returns] at h; cases h)
          have ev40 : (own_cs 4 (z1 &&& (255 : Int32)) (z2 &&& (255 : Int32)) (z3 &&& (255 : Int32)) (z4 &&& (255 : Int32))) = v13 := by
            have hq := hv13
            simp only [own_cs, own_g2, own_g3, own_g4, ← hv7, ← hv13, ← hv20, ← hv27, ← hv59]
            simp [hc36, hc65, hc72, hc36_2]
          refine ⟨_, _, pre20 _ ?_, hrun, hended, _, _, rfl, ?_, ⟨_, rfl⟩, hW, hsame.mono (by decide) (by decide)⟩
          · show Steps p.tables e below (T9.setTop (mkF m 36 #[.val (.ref xarr), .val (.int (1 : Int32)), .val (.int (5 : Int32)), .val (.int v7), .val (.int v13), .val (.int (128 : Int32)), .val (.int (191 : Int32)), .val (.int (2 : Int32)), .val (.int v59)] [(.int v13), (.int (2 : Int32))])) _
            refine XS.icmpYes X9.here hx rfl (pc0 := 36) (pc' := 93) rfl (hb hby own_d1_36) rfl (flt hc36_2).2.1 (by decide) (by decide) ?_
            show Steps p.tables e below (T9.setTop (mkF m 93 #[.val (.ref xarr), .val (.int (1 : Int32)), .val (.int (5 : Int32)), .val (.int v7), .val (.int v13), .val (.int (128 : Int32)), .val (.int (191 : Int32)), .val (.int (2 : Int32)), .val (.int v59)] [])) _
            refine XS.iload X9.here hx rfl (hb hby own_d1_93) rfl ?_
            show Steps p.tables e below (T9.setTop (mkF m 95 #[.val (.ref xarr), .val (.int (1 : Int32)), .val (.int (5 : Int32)), .val (.int v7), .val (.int v13), .val (.int (128 : Int32)), .val (.int (191 : Int32)), .val (.int (2 : Int32)), .val (.int v59)] [(.int v13)])) _
            exact retI X9 hx Bd.returns (hb hby own_d1_95) hr
          · show own_Q1_1_4 Z xarr xk z0 z1 z2 z3 z4 wS cS wL cL wH cH h0 n0 _ T9.heap _
            rw [e9]
            exact ⟨(by rw [ev40]), N0, rfl⟩
  · obtain ⟨fs, hr, hrun, hended, hW, hsame⟩ := X9.leave (v := some (.int v13)) (fun h => by rw [Bd.returns] at h; cases h)
    have ev41 : (own_cs 4 (z1 &&& (255 : Int32)) (z2 &&& (255 : Int32)) (z3 &&& (255 : Int32)) (z4 &&& (255 : Int32))) = v13 := by
      have hq := hv13
      simp only [own_cs, own_g2, own_g3, own_g4, ← hv7, ← hv13, ← hv20, ← hv27]
      simp [hc36]
    refine ⟨_, _, pre12 _ ?_, hrun, hended, _, _, rfl, ?_, ⟨_, rfl⟩, hW, hsame.mono (by decide) (by decide)⟩
    · show Steps p.tables e below (T9.setTop (mkF m 36 #[.val (.ref xarr), .val (.int (1 : Int32)), .val (.int (5 : Int32)), .val (.int v7), .val (.int v13), .val (.int v20), .val (.int v27), .val (.int (1 : Int32)), .unset] [(.int v13), (.int (1 : Int32))])) _
      refine XS.icmpYes X9.here hx rfl (pc0 := 36) (pc' := 93) rfl (hb hby own_d1_36) rfl (flt hc36).2.1 (by decide) (by decide) ?_
      show Steps p.tables e below (T9.setTop (mkF m 93 #[.val (.ref xarr), .val (.int (1 : Int32)), .val (.int (5 : Int32)), .val (.int v7), .val (.int v13), .val (.int v20), .val (.int v27), .val (.int (1 : Int32)), .unset] [])) _
      refine XS.iload X9.here hx rfl (hb hby own_d1_93) rfl ?_
      show Steps p.tables e below (T9.setTop (mkF m 95 #[.val (.ref xarr), .val (.int (1 : Int32)), .val (.int (5 : Int32)), .val (.int v7), .val (.int v13), .val (.int v20), .val (.int v27), .val (.int (1 : Int32)), .unset] [(.int v13)])) _
      exact retI X9 hx Bd.returns (hb hby own_d1_95) hr
    · show own_Q1_1_4 Z xarr xk z0 z1 z2 z3 z4 wS cS wL cL wH cH h0 n0 _ T9.heap _
      rw [e9]
      exact ⟨(by rw [ev41]), N0, rfl⟩
theorem own_pd0 : parseMethodDescriptor "(III)Z" = some ⟨[.int, .int, .int], some .boolean⟩ := by decide +kernel
theorem own_d2_0 : decode method_4_code 0 = .ok (.iload_n 0, 1) := by decide +kernel
theorem own_d2_1 : decode method_4_code 1 = .ok (.sipush 128, 3) := by decide +kernel
theorem own_d2_4 : decode method_4_code 4 = .ok (.if_icmp .ge 5, 3) := by decide +kernel
theorem own_d2_7 : decode method_4_code 7 = .ok (.iconst 1, 1) := by decide +kernel
theorem own_d2_8 : decode method_4_code 8 = .ok (.ireturn, 1) := by decide +kernel
theorem own_d2_9 : decode method_4_code 9 = .ok (.iload_n 0, 1) := by decide +kernel
theorem own_d2_10 : decode method_4_code 10 = .ok (.sipush 194, 3) := by decide +kernel
theorem own_d2_13 : decode method_4_code 13 = .ok (.if_icmp .lt 10, 3) := by decide +kernel
theorem own_d2_16 : decode method_4_code 16 = .ok (.iload_n 0, 1) := by decide +kernel
theorem own_d2_17 : decode method_4_code 17 = .ok (.sipush 244, 3) := by decide +kernel
theorem own_d2_20 : decode method_4_code 20 = .ok (.if_icmp .le 5, 3) := by decide +kernel
theorem own_d2_23 : decode method_4_code 23 = .ok (.iconst (-1), 1) := by decide +kernel
theorem own_d2_24 : decode method_4_code 24 = .ok (.ireturn, 1) := by decide +kernel
theorem own_d2_25 : decode method_4_code 25 = .ok (.iload_n 0, 1) := by decide +kernel
theorem own_d2_26 : decode method_4_code 26 = .ok (.sipush 224, 3) := by decide +kernel
theorem own_d2_29 : decode method_4_code 29 = .ok (.if_icmp .ge 7, 3) := by decide +kernel
theorem own_d2_32 : decode method_4_code 32 = .ok (.iconst 2, 1) := by decide +kernel
theorem own_d2_33 : decode method_4_code 33 = .ok (.goto 15, 3) := by decide +kernel
theorem own_d2_36 : decode method_4_code 36 = .ok (.iload_n 0, 1) := by decide +kernel
theorem own_d2_37 : decode method_4_code 37 = .ok (.sipush 240, 3) := by decide +kernel
theorem own_d2_40 : decode method_4_code 40 = .ok (.if_icmp .ge 7, 3) := by decide +kernel
theorem own_d2_43 : decode method_4_code 43 = .ok (.iconst 3, 1) := by decide +kernel
theorem own_d2_44 : decode method_4_code 44 = .ok (.goto 4, 3) := by decide +kernel
theorem own_d2_47 : decode method_4_code 47 = .ok (.iconst 4, 1) := by decide +kernel
theorem own_d2_48 : decode method_4_code 48 = .ok (.istore 5, 2) := by decide +kernel
theorem own_d2_50 : decode method_4_code 50 = .ok (.iload_n 0, 1) := by decide +kernel
theorem own_d2_51 : decode method_4_code 51 = .ok (.sipush 224, 3) := by decide +kernel
theorem own_d2_54 : decode method_4_code 54 = .ok (.if_icmp .ne 9, 3) := by decide +kernel
theorem own_d2_57 : decode method_4_code 57 = .ok (.sipush 160, 3) := by decide +kernel
theorem own_d2_60 : decode method_4_code 60 = .ok (.goto 19, 3) := by decide +kernel
theorem own_d2_63 : decode method_4_code 63 = .ok (.iload_n 0, 1) := by decide +kernel
theorem own_d2_64 : decode method_4_code 64 = .ok (.sipush 240, 3) := by decide +kernel
theorem own_d2_67 : decode method_4_code 67 = .ok (.if_icmp .ne 9, 3) := by decide +kernel
theorem own_d2_70 : decode method_4_code 70 = .ok (.sipush 144, 3) := by decide +kernel
theorem own_d2_73 : decode method_4_code 73 = .ok (.goto 6, 3) := by decide +kernel
theorem own_d2_76 : decode method_4_code 76 = .ok (.sipush 128, 3) := by decide +kernel
theorem own_d2_79 : decode method_4_code 79 = .ok (.istore 6, 2) := by decide +kernel
theorem own_d2_81 : decode method_4_code 81 = .ok (.iload_n 0, 1) := by decide +kernel
theorem own_d2_82 : decode method_4_code 82 = .ok (.sipush 237, 3) := by decide +kernel
theorem own_d2_85 : decode method_4_code 85 = .ok (.if_icmp .ne 9, 3) := by decide +kernel
theorem own_d2_88 : decode method_4_code 88 = .ok (.sipush 159, 3) := by decide +kernel
theorem own_d2_91 : decode method_4_code 91 = .ok (.goto 19, 3) := by decide +kernel
theorem own_d2_94 : decode method_4_code 94 = .ok (.iload_n 0, 1) := by decide +kernel
theorem own_d2_95 : decode method_4_code 95 = .ok (.sipush 244, 3) := by decide +kernel
theorem own_d2_98 : decode method_4_code 98 = .ok (.if_icmp .ne 9, 3) := by decide +kernel
theorem own_d2_101 : decode method_4_code 101 = .ok (.sipush 143, 3) := by decide +kernel
theorem own_d2_104 : decode method_4_code 104 = .ok (.goto 6, 3) := by decide +kernel
theorem own_d2_107 : decode method_4_code 107 = .ok (.sipush 191, 3) := by decide +kernel
theorem own_d2_110 : decode method_4_code 110 = .ok (.istore 7, 2) := by decide +kernel
theorem own_d2_112 : decode method_4_code 112 = .ok (.iload 4, 2) := by decide +kernel
theorem own_d2_114 : decode method_4_code 114 = .ok (.iconst 2, 1) := by decide +kernel
theorem own_d2_115 : decode method_4_code 115 = .ok (.if_icmp .ge 5, 3) := by decide +kernel
theorem own_d2_118 : decode method_4_code 118 = .ok (.iconst 0, 1) := by decide +kernel
theorem own_d2_119 : decode method_4_code 119 = .ok (.ireturn, 1) := by decide +kernel
theorem own_d2_120 : decode method_4_code 120 = .ok (.iload_n 1, 1) := by decide +kernel
theorem own_d2_121 : decode method_4_code 121 = .ok (.iload 6, 2) := by decide +kernel
theorem own_d2_123 : decode method_4_code 123 = .ok (.iload 7, 2) := by decide +kernel
theorem own_d2_125 : decode method_4_code 125 = .ok (.invokestatic 19, 3) := by decide +kernel
theorem own_d2_128 : decode method_4_code 128 = .ok (.ifCond .ne 5, 3) := by decide +kernel
theorem own_d2_131 : decode method_4_code 131 = .ok (.iconst (-1), 1) := by decide +kernel
theorem own_d2_132 : decode method_4_code 132 = .ok (.ireturn, 1) := by decide +kernel
theorem own_d2_133 : decode method_4_code 133 = .ok (.iload 5, 2) := by decide +kernel
theorem own_d2_135 : decode method_4_code 135 = .ok (.iconst 2, 1) := by decide +kernel
theorem own_d2_136 : decode method_4_code 136 = .ok (.if_icmp .ne 5, 3) := by decide +kernel
theorem own_d2_139 : decode method_4_code 139 = .ok (.iconst 2, 1) := by decide +kernel
theorem own_d2_140 : decode method_4_code 140 = .ok (.ireturn, 1) := by decide +kernel
theorem own_d2_141 : decode method_4_code 141 = .ok (.iload 4, 2) := by decide +kernel
theorem own_d2_143 : decode method_4_code 143 = .ok (.iconst 3, 1) := by decide +kernel
theorem own_d2_144 : decode method_4_code 144 = .ok (.if_icmp .ge 5, 3) := by decide +kernel
theorem own_d2_147 : decode method_4_code 147 = .ok (.iconst 0, 1) := by decide +kernel
theorem own_d2_148 : decode method_4_code 148 = .ok (.ireturn, 1) := by decide +kernel
theorem own_d2_149 : decode method_4_code 149 = .ok (.iload_n 2, 1) := by decide +kernel
theorem own_d2_150 : decode method_4_code 150 = .ok (.sipush 128, 3) := by decide +kernel
theorem own_d2_153 : decode method_4_code 153 = .ok (.sipush 191, 3) := by decide +kernel
theorem own_d2_156 : decode method_4_code 156 = .ok (.invokestatic 19, 3) := by decide +kernel
theorem own_d2_159 : decode method_4_code 159 = .ok (.ifCond .ne 5, 3) := by decide +kernel
theorem own_d2_162 : decode method_4_code 162 = .ok (.iconst (-1), 1) := by decide +kernel
theorem own_d2_163 : decode method_4_code 163 = .ok (.ireturn, 1) := by decide +kernel
theorem own_d2_164 : decode method_4_code 164 = .ok (.iload 5, 2) := by decide +kernel
theorem own_d2_166 : decode method_4_code 166 = .ok (.iconst 3, 1) := by decide +kernel
theorem own_d2_167 : decode method_4_code 167 = .ok (.if_icmp .ne 5, 3) := by decide +kernel
theorem own_d2_170 : decode method_4_code 170 = .ok (.iconst 3, 1) := by decide +kernel
theorem own_d2_171 : decode method_4_code 171 = .ok (.ireturn, 1) := by decide +kernel
theorem own_d2_172 : decode method_4_code 172 = .ok (.iload 4, 2) := by decide +kernel
theorem own_d2_174 : decode method_4_code 174 = .ok (.iconst 4, 1) := by decide +kernel
theorem own_d2_175 : decode method_4_code 175 = .ok (.if_icmp .ge 5, 3) := by decide +kernel
theorem own_d2_178 : decode method_4_code 178 = .ok (.iconst 0, 1) := by decide +kernel
theorem own_d2_179 : decode method_4_code 179 = .ok (.ireturn, 1) := by decide +kernel
theorem own_d2_180 : decode method_4_code 180 = .ok (.iload_n 3, 1) := by decide +kernel
theorem own_d2_181 : decode method_4_code 181 = .ok (.sipush 128, 3) := by decide +kernel
theorem own_d2_184 : decode method_4_code 184 = .ok (.sipush 191, 3) := by decide +kernel
theorem own_d2_187 : decode method_4_code 187 = .ok (.invokestatic 19, 3) := by decide +kernel
theorem own_d2_190 : decode method_4_code 190 = .ok (.ifCond .ne 5, 3) := by decide +kernel
theorem own_d2_193 : decode method_4_code 193 = .ok (.iconst (-1), 1) := by decide +kernel
theorem own_d2_194 : decode method_4_code 194 = .ok (.ireturn, 1) := by decide +kernel
theorem own_d2_195 : decode method_4_code 195 = .ok (.iconst 4, 1) := by decide +kernel
theorem own_d2_196 : decode method_4_code 196 = .ok (.ireturn, 1) := by decide +kernel
def own_Q2 (Z : State) (x0 : Int32) (x1 : Int32) (x2 : Int32) (x3 : Int32) (xn : Int32) (h0 : Heap) (n0 : Nat) (v : Option Value) (h : Heap) (L : List Loc) : Prop := v = some (.int (own_ex x0 x1 x2 x3 xn)) ∧ Fr n0 L ∧ h = h0
theorem own_ef2 (m : MethodId) (x0 : Int32) (x1 : Int32) (x2 : Int32) (x3 : Int32) (xn : Int32) : entryFrame m #[(.int x0), (.int x1), (.int x2), (.int x3), (.int xn)] 8 = mkF m 0 #[.val (.int x0), .val (.int x1), .val (.int x2), .val (.int x3), .val (.int xn), .unset, .unset, .unset] [] := by first | (simp [entryFrame, mkF, argsToLocals, Value.category]; done) | rfl
set_option maxRecDepth 65536 in
set_option maxHeartbeats 40000000 in
theorem own_rm2 (l : Launch) (Z : State) (a0 : Array Value) (hw : ∀ d ∈ tables_1, d.before a0 Z = true) (ws : List Jvm.Cond) (x0 : Int32) (x1 : Int32) (x2 : Int32) (x3 : Int32) (xn : Int32) (h0 : Heap) (n0 : Nat) (Z0 : n0 ≤ h0.size)  :
    MetFree l (⟨"com/example/stratafile/stratafile/io/Utf8CharacterSizePinLaw", "expected", "(IIIII)I"⟩ : MethodName) (head1 (Jvm.Cond.code (⟨"com/example/stratafile/stratafile/io/Utf8CharacterSizePinLaw", "expected", "(IIIII)I"⟩ : MethodName) method_4_code 8 (some .int) :: ws) ({ frames := 1, cells := 0, slots := 0, locals := 14 } : Room)) (fun a U => a = #[(.int x0), (.int x1), (.int x2), (.int x3), (.int xn)] ∧ Z.Warmed39 U.vm ∧ U.heap = h0) (fun _ _ _ _ _ => True) (fun _ U o U' => ∃ v L, o = .returned v ∧ own_Q2 Z x0 x1 x2 x3 xn h0 n0 v U'.heap L ∧ FrameEnd U o U' L ({ frames := 1, cells := 0, slots := 0, locals := 14 } : Room).cells ({ frames := 1, cells := 0, slots := 0, locals := 14 } : Room).slots) := by
  refine MetFree.of_bodySF (plainFor_of_name own_pn0) hisR ?_
  intro p e s m args below meth c s₁ Bd hml0 hP hK
  obtain ⟨rfl, hZ, hh⟩ := hP
  have hx := Bd.exec
  have hby := Bd.bytes
  have hml : c.maxLocals = 8 := hml0
  have hown : s.vm.findClass "com/example/stratafile/stratafile/io/Utf8CharacterSizePinLaw" = some m.cls := findClass_of_methodNamed Bd.named
  have hnm := (name_of_methodNamed Bd.named Bd.method).1
  have X0 : Stand p l e ({ frames := 1, cells := 0, slots := 0, locals := 14 } : Room) s m #[(.int x0), (.int x1), (.int x2), (.int x3), (.int xn)] below meth c s₁ [] 0 0 := Stand.of_body Bd
  have e0 : s₁.heap = h0 := by rw [← hh, Bd.state]; rfl
  have N0 := Fr.nil n0
  have pre0 : ∀ t, Steps p.tables e below (s₁.setTop (mkF m 0 #[.val (.int x0), .val (.int x1), .val (.int x2), .val (.int x3), .val (.int xn), .unset, .unset, .unset] [])) t → Steps p.tables e below (s₁.setTop (entryFrame m #[(.int x0), (.int x1), (.int x2), (.int x3), (.int xn)] 8)) t := fun t k => castTop (own_ef2 m x0 x1 x2 x3 xn) k
  have pre1 : ∀ t, Steps p.tables e below (s₁.setTop (mkF m 4 #[.val (.int x0), .val (.int x1), .val (.int x2), .val (.int x3), .val (.int xn), .unset, .unset, .unset] [(.int (128 : Int32)), (.int x0)])) t → Steps p.tables e below (s₁.setTop (entryFrame m #[(.int x0), (.int x1), (.int x2), (.int x3), (.int xn)] 8)) t := by
    intro t k
    refine pre0 _ ?_
    show Steps p.tables e below (s₁.setTop (mkF m 0 #[.val (.int x0), .val (.int x1), .val (.int x2), .val (.int x3), .val (.int xn), .unset, .unset, .unset] [])) _
    refine XS.iloadN X0.here hx rfl (hb hby own_d2_0) rfl ?_
    show Steps p.tables e below (s₁.setTop (mkF m 1 #[.val (.int x0), .val (.int x1), .val (.int x2), .val (.int x3), .val (.int xn), .unset, .unset, .unset] [(.int x0)])) _
    refine XS.sipush X0.here hx rfl (hb hby own_d2_1) ?_
    exact k
  by_cases hc4 : x0 < (128 : Int32)
  · obtain ⟨fs, hr, hrun, hended, hW, hsame⟩ := X0.leave (v := some (.int (1 : Int32))) (fun h => by rw [Bd.returns] at h; cases h)
    have ev2 : (own_ex x0 x1 x2 x3 xn) = (1 : Int32) := by
      simp only [own_ex]
      simp [hc4]
    refine ⟨_, _, pre1 _ ?_, hrun, hended, _, _, rfl, ?_, ⟨_, rfl⟩, hW, hsame.mono (by decide) (by decide)⟩
    · show Steps p.tables e below (s₁.setTop (mkF m 4 #[.val (.int x0), .val (.int x1), .val (.int x2), .val (.int x3), .val (.int xn), .unset, .unset, .unset] [(.int (128 : Int32)), (.int x0)])) _
      refine XS.icmpNo X0.here hx rfl (hb hby own_d2_4) rfl (tlt hc4).2.1 ?_
      show Steps p.tables e below (s₁.setTop (mkF m 7 #[.val (.int x0), .val (.int x1), .val (.int x2), .val (.int x3), .val (.int xn), .unset, .unset, .unset] [])) _
      refine XS.iconst X0.here hx rfl (hb hby own_d2_7) ?_
      show Steps p.tables e below (s₁.setTop (mkF m 8 #[.val (.int x0), .val (.int x1), .val (.int x2), .val (.int x3), .val (.int xn), .unset, .unset, .unset] [(.int (1 : Int32))])) _
      exact retI X0 hx Bd.returns (hb hby own_d2_8) hr
    · show own_Q2 Z x0 x1 x2 x3 xn h0 n0 _ s₁.heap _
      rw [e0]
      exact ⟨(by rw [ev2]), N0, rfl⟩
  · have pre3 : ∀ t, Steps p.tables e below (s₁.setTop (mkF m 13 #[.val (.int x0), .val (.int x1), .val (.int x2), .val (.int x3), .val (.int xn), .unset, .unset, .unset] [(.int (194 : Int32)), (.int x0)])) t → Steps p.tables e below (s₁.setTop (entryFrame m #[(.int x0), (.int x1), (.int x2), (.int x3), (.int xn)] 8)) t := by
      intro t k
      refine pre1 _ ?_
      show Steps p.tables e below (s₁.setTop (mkF m 4 #[.val (.int x0), .val (.int x1), .val (.int x2), .val (.int x3), .val (.int xn), .unset, .unset, .unset] [(.int (128 : Int32)), (.int x0)])) _
      refine XS.icmpYes X0.here hx rfl (pc0 := 4) (pc' := 9) rfl (hb hby own_d2_4) rfl (flt hc4).2.1 (by decide) (by decide) ?_
      show Steps p.tables e below (s₁.setTop (mkF m 9 #[.val (.int x0), .val (.int x1), .val (.int x2), .val (.int x3), .val (.int xn), .unset, .unset, .unset] [])) _
      refine XS.iloadN X0.here hx rfl (hb hby own_d2_9) rfl ?_
      show Steps p.tables e below (s₁.setTop (mkF m 10 #[.val (.int x0), .val (.int x1), .val (.int x2), .val (.int x3), .val (.int xn), .unset, .unset, .unset] [(.int x0)])) _
      refine XS.sipush X0.here hx rfl (hb hby own_d2_10) ?_
      exact k
    by_cases hc13 : x0 < (194 : Int32)
    · obtain ⟨fs, hr, hrun, hended, hW, hsame⟩ := X0.leave (v := some (.int (-1 : Int32))) (fun h => by rw [Bd.returns] at h; cases h)
      have ev4 : (own_ex x0 x1 x2 x3 xn) = (-1 : Int32) := by
        simp only [own_ex]
        simp [hc4, hc13]
      refine ⟨_, _, pre3 _ ?_, hrun, hended, _, _, rfl, ?_, ⟨_, rfl⟩, hW, hsame.mono (by decide) (by decide)⟩
      · show Steps p.tables e below (s₁.setTop (mkF m 13 #[.val (.int x0), .val (.int x1), .val (.int x2), .val (.int x3), .val (.int xn), .unset, .unset, .unset] [(.int (194 : Int32)), (.int x0)])) _
        refine XS.icmpYes X0.here hx rfl (pc0 := 13) (pc' := 23) rfl (hb hby own_d2_13) rfl (tlt hc13).1 (by decide) (by decide) ?_
        show Steps p.tables e below (s₁.setTop (mkF m 23 #[.val (.int x0), .val (.int x1), .val (.int x2), .val (.int x3), .val (.int xn), .unset, .unset, .unset] [])) _
        refine XS.iconst X0.here hx rfl (hb hby own_d2_23) ?_
        show Steps p.tables e below (s₁.setTop (mkF m 24 #[.val (.int x0), .val (.int x1), .val (.int x2), .val (.int x3), .val (.int xn), .unset, .unset, .unset] [(.int (-1 : Int32))])) _
        exact retI X0 hx Bd.returns (hb hby own_d2_24) hr
      · show own_Q2 Z x0 x1 x2 x3 xn h0 n0 _ s₁.heap _
        rw [e0]
        exact ⟨(by rw [ev4]), N0, rfl⟩
    · have pre5 : ∀ t, Steps p.tables e below (s₁.setTop (mkF m 20 #[.val (.int x0), .val (.int x1), .val (.int x2), .val (.int x3), .val (.int xn), .unset, .unset, .unset] [(.int (244 : Int32)), (.int x0)])) t → Steps p.tables e below (s₁.setTop (entryFrame m #[(.int x0), (.int x1), (.int x2), (.int x3), (.int xn)] 8)) t := by
        intro t k
        refine pre3 _ ?_
        show Steps p.tables e below (s₁.setTop (mkF m 13 #[.val (.int x0), .val (.int x1), .val (.int x2), .val (.int x3), .val (.int xn), .unset, .unset, .unset] [(.int (194 : Int32)), (.int x0)])) _
        refine XS.icmpNo X0.here hx rfl (hb hby own_d2_13) rfl (flt hc13).1 ?_
        show Steps p.tables e below (s₁.setTop (mkF m 16 #[.val (.int x0), .val (.int x1), .val (.int x2), .val (.int x3), .val (.int xn), .unset, .unset, .unset] [])) _
        refine XS.iloadN X0.here hx rfl (hb hby own_d2_16) rfl ?_
        show Steps p.tables e below (s₁.setTop (mkF m 17 #[.val (.int x0), .val (.int x1), .val (.int x2), .val (.int x3), .val (.int xn), .unset, .unset, .unset] [(.int x0)])) _
        refine XS.sipush X0.here hx rfl (hb hby own_d2_17) ?_
        exact k
      by_cases hc20 : (244 : Int32) < x0
      · obtain ⟨fs, hr, hrun, hended, hW, hsame⟩ := X0.leave (v := some (.int (-1 : Int32))) (fun h => by rw [Bd.returns] at h; cases h)
        have ev6 : (own_ex x0 x1 x2 x3 xn) = (-1 : Int32) := by
          simp only [own_ex]
          simp [hc4, hc13, hc20]
        refine ⟨_, _, pre5 _ ?_, hrun, hended, _, _, rfl, ?_, ⟨_, rfl⟩, hW, hsame.mono (by decide) (by decide)⟩
        · show Steps p.tables e below (s₁.setTop (mkF m 20 #[.val (.int x0), .val (.int x1), .val (.int x2), .val (.int x3), .val (.int xn), .unset, .unset, .unset] [(.int (244 : Int32)), (.int x0)])) _
          refine XS.icmpNo X0.here hx rfl (hb hby own_d2_20) rfl (tlt hc20).2.2.2 ?_
          show Steps p.tables e below (s₁.setTop (mkF m 23 #[.val (.int x0), .val (.int x1), .val (.int x2), .val (.int x3), .val (.int xn), .unset, .unset, .unset] [])) _
          refine XS.iconst X0.here hx rfl (hb hby own_d2_23) ?_
          show Steps p.tables e below (s₁.setTop (mkF m 24 #[.val (.int x0), .val (.int x1), .val (.int x2), .val (.int x3), .val (.int xn), .unset, .unset, .unset] [(.int (-1 : Int32))])) _
          exact retI X0 hx Bd.returns (hb hby own_d2_24) hr
        · show own_Q2 Z x0 x1 x2 x3 xn h0 n0 _ s₁.heap _
          rw [e0]
          exact ⟨(by rw [ev6]), N0, rfl⟩
      · have pre7 : ∀ t, Steps p.tables e below (s₁.setTop (mkF m 29 #[.val (.int x0), .val (.int x1), .val (.int x2), .val (.int x3), .val (.int xn), .unset, .unset, .unset] [(.int (224 : Int32)), (.int x0)])) t → Steps p.tables e below (s₁.setTop (entryFrame m #[(.int x0), (.int x1), (.int x2), (.int x3), (.int xn)] 8)) t := by
          intro t k
          refine pre5 _ ?_
          show Steps p.tables e below (s₁.setTop (mkF m 20 #[.val (.int x0), .val (.int x1), .val (.int x2), .val (.int x3), .val (.int xn), .unset, .unset, .unset] [(.int (244 : Int32)), (.int x0)])) _
          refine XS.icmpYes X0.here hx rfl (pc0 := 20) (pc' := 25) rfl (hb hby own_d2_20) rfl (flt hc20).2.2.2 (by decide) (by decide) ?_
          show Steps p.tables e below (s₁.setTop (mkF m 25 #[.val (.int x0), .val (.int x1), .val (.int x2), .val (.int x3), .val (.int xn), .unset, .unset, .unset] [])) _
          refine XS.iloadN X0.here hx rfl (hb hby own_d2_25) rfl ?_
          show Steps p.tables e below (s₁.setTop (mkF m 26 #[.val (.int x0), .val (.int x1), .val (.int x2), .val (.int x3), .val (.int xn), .unset, .unset, .unset] [(.int x0)])) _
          refine XS.sipush X0.here hx rfl (hb hby own_d2_26) ?_
          exact k
        obtain ⟨xsz, hxsz⟩ : ∃ w : Int32, w = (if x0 < (224 : Int32) then (2 : Int32) else (if x0 < (240 : Int32) then (3 : Int32) else (4 : Int32))) := ⟨_, rfl⟩
        have pre8 : ∀ t, Steps p.tables e below (s₁.setTop (mkF m 48 #[.val (.int x0), .val (.int x1), .val (.int x2), .val (.int x3), .val (.int xn), .unset, .unset, .unset] [(.int xsz)])) t → Steps p.tables e below (s₁.setTop (entryFrame m #[(.int x0), (.int x1), (.int x2), (.int x3), (.int xn)] 8)) t := by
          intro t k
          refine pre7 _ ?_
          by_cases hm29 : x0 < (224 : Int32)
          · have hq := hxsz
            rw [if_pos hm29] at hq
            rw [hq] at k
            show Steps p.tables e below (s₁.setTop (mkF m 29 #[.val (.int x0), .val (.int x1), .val (.int x2), .val (.int x3), .val (.int xn), .unset, .unset, .unset] [(.int (224 : Int32)), (.int x0)])) _
            refine XS.icmpNo X0.here hx rfl (hb hby own_d2_29) rfl (tlt hm29).2.1 ?_
            show Steps p.tables e below (s₁.setTop (mkF m 32 #[.val (.int x0), .val (.int x1), .val (.int x2), .val (.int x3), .val (.int xn), .unset, .unset, .unset] [])) _
            refine XS.iconst X0.here hx rfl (hb hby own_d2_32) ?_
            show Steps p.tables e below (s₁.setTop (mkF m 33 #[.val (.int x0), .val (.int x1), .val (.int x2), .val (.int x3), .val (.int xn), .unset, .unset, .unset] [(.int (2 : Int32))])) _
            refine XS.goto X0.here hx rfl (pc0 := 33) (pc' := 48) rfl (hb hby own_d2_33) (by decide) (by decide) ?_
            exact k
          · by_cases hm40 : x0 < (240 : Int32)
            · have hq := hxsz
              rw [if_neg hm29, if_pos hm40] at hq
              rw [hq] at k
              show Steps p.tables e below (s₁.setTop (mkF m 29 #[.val (.int x0), .val (.int x1), .val (.int x2), .val (.int x3), .val (.int xn), .unset, .unset, .unset] [(.int (224 : Int32)), (.int x0)])) _
              refine XS.icmpYes X0.here hx rfl (pc0 := 29) (pc' := 36) rfl (hb hby own_d2_29) rfl (flt hm29).2.1 (by decide) (by decide) ?_
              show Steps p.tables e below (s₁.setTop (mkF m 36 #[.val (.int x0), .val (.int x1), .val (.int x2), .val (.int x3), .val (.int xn), .unset, .unset, .unset] [])) _
              refine XS.iloadN X0.here hx rfl (hb hby own_d2_36) rfl ?_
              show Steps p.tables e below (s₁.setTop (mkF m 37 #[.val (.int x0), .val (.int x1), .val (.int x2), .val (.int x3), .val (.int xn), .unset, .unset, .unset] [(.int x0)])) _
              refine XS.sipush X0.here hx rfl (hb hby own_d2_37) ?_
              show Steps p.tables e below (s₁.setTop (mkF m 40 #[.val (.int x0), .val (.int x1), .val (.int x2), .val (.int x3), .val (.int xn), .unset, .unset, .unset] [(.int (240 : Int32)), (.int x0)])) _
              refine XS.icmpNo X0.here hx rfl (hb hby own_d2_40) rfl (tlt hm40).2.1 ?_
              show Steps p.tables e below (s₁.setTop (mkF m 43 #[.val (.int x0), .val (.int x1), .val (.int x2), .val (.int x3), .val (.int xn), .unset, .unset, .unset] [])) _
              refine XS.iconst X0.here hx rfl (hb hby own_d2_43) ?_
              show Steps p.tables e below (s₁.setTop (mkF m 44 #[.val (.int x0), .val (.int x1), .val (.int x2), .val (.int x3), .val (.int xn), .unset, .unset, .unset] [(.int (3 : Int32))])) _
              refine XS.goto X0.here hx rfl (pc0 := 44) (pc' := 48) rfl (hb hby own_d2_44) (by decide) (by decide) ?_
              exact k
            · have hq := hxsz
              rw [if_neg hm29, if_neg hm40] at hq
              rw [hq] at k
              show Steps p.tables e below (s₁.setTop (mkF m 29 #[.val (.int x0), .val (.int x1), .val (.int x2), .val (.int x3), .val (.int xn), .unset, .unset, .unset] [(.int (224 : Int32)), (.int x0)])) _
              refine XS.icmpYes X0.here hx rfl (pc0 := 29) (pc' := 36) rfl (hb hby own_d2_29) rfl (flt hm29).2.1 (by decide) (by decide) ?_
              show Steps p.tables e below (s₁.setTop (mkF m 36 #[.val (.int x0), .val (.int x1), .val (.int x2), .val (.int x3), .val (.int xn), .unset, .unset, .unset] [])) _
              refine XS.iloadN X0.here hx rfl (hb hby own_d2_36) rfl ?_
              show Steps p.tables e below (s₁.setTop (mkF m 37 #[.val (.int x0), .val (.int x1), .val (.int x2), .val (.int x3), .val (.int xn), .unset, .unset, .unset] [(.int x0)])) _
              refine XS.sipush X0.here hx rfl (hb hby own_d2_37) ?_
              show Steps p.tables e below (s₁.setTop (mkF m 40 #[.val (.int x0), .val (.int x1), .val (.int x2), .val (.int x3), .val (.int xn), .unset, .unset, .unset] [(.int (240 : Int32)), (.int x0)])) _
              refine XS.icmpYes X0.here hx rfl (pc0 := 40) (pc' := 47) rfl (hb hby own_d2_40) rfl (flt hm40).2.1 (by decide) (by decide) ?_
              show Steps p.tables e below (s₁.setTop (mkF m 47 #[.val (.int x0), .val (.int x1), .val (.int x2), .val (.int x3), .val (.int xn), .unset, .unset, .unset] [])) _
              refine XS.iconst X0.here hx rfl (hb hby own_d2_47) ?_
              exact k
        have pre9 : ∀ t, Steps p.tables e below (s₁.setTop (mkF m 54 #[.val (.int x0), .val (.int x1), .val (.int x2), .val (.int x3), .val (.int xn), .val (.int xsz), .unset, .unset] [(.int (224 : Int32)), (.int x0)])) t → Steps p.tables e below (s₁.setTop (entryFrame m #[(.int x0), (.int x1), (.int x2), (.int x3), (.int xn)] 8)) t := by
          intro t k
          refine pre8 _ ?_
          show Steps p.tables e below (s₁.setTop (mkF m 48 #[.val (.int x0), .val (.int x1), .val (.int x2), .val (.int x3), .val (.int xn), .unset, .unset, .unset] [(.int xsz)])) _
          refine XS.istore X0.here hx rfl (hb hby own_d2_48) rfl (l' := #[.val (.int x0), .val (.int x1), .val (.int x2), .val (.int x3), .val (.int xn), .val (.int xsz), .unset, .unset]) rfl ?_
          show Steps p.tables e below (s₁.setTop (mkF m 50 #[.val (.int x0), .val (.int x1), .val (.int x2), .val (.int x3), .val (.int xn), .val (.int xsz), .unset, .unset] [])) _
          refine XS.iloadN X0.here hx rfl (hb hby own_d2_50) rfl ?_
          show Steps p.tables e below (s₁.setTop (mkF m 51 #[.val (.int x0), .val (.int x1), .val (.int x2), .val (.int x3), .val (.int xn), .val (.int xsz), .unset, .unset] [(.int x0)])) _
          refine XS.sipush X0.here hx rfl (hb hby own_d2_51) ?_
          exact k
        obtain ⟨xlo, hxlo⟩ : ∃ w : Int32, w = (if x0 = (224 : Int32) then (160 : Int32) else (if x0 = (240 : Int32) then (144 : Int32) else (128 : Int32))) := ⟨_, rfl⟩
        have pre10 : ∀ t, Steps p.tables e below (s₁.setTop (mkF m 79 #[.val (.int x0), .val (.int x1), .val (.int x2), .val (.int x3), .val (.int xn), .val (.int xsz), .unset, .unset] [(.int xlo)])) t → Steps p.tables e below (s₁.setTop (entryFrame m #[(.int x0), (.int x1), (.int x2), (.int x3), (.int xn)] 8)) t := by
          intro t k
          refine pre9 _ ?_
          by_cases hm54 : x0 = (224 : Int32)
          · have hq := hxlo
            rw [if_pos hm54] at hq
            rw [hq] at k
            show Steps p.tables e below (s₁.setTop (mkF m 54 #[.val (.int x0), .val (.int x1), .val (.int x2), .val (.int x3), .val (.int xn), .val (.int xsz), .unset, .unset] [(.int (224 : Int32)), (.int x0)])) _
            refine XS.icmpNo X0.here hx rfl (hb hby own_d2_54) rfl (teq hm54).2 ?_
            show Steps p.tables e below (s₁.setTop (mkF m 57 #[.val (.int x0), .val (.int x1), .val (.int x2), .val (.int x3), .val (.int xn), .val (.int xsz), .unset, .unset] [])) _
            refine XS.sipush X0.here hx rfl (hb hby own_d2_57) ?_
            show Steps p.tables e below (s₁.setTop (mkF m 60 #[.val (.int x0), .val (.int x1), .val (.int x2), .val (.int x3), .val (.int xn), .val (.int xsz), .unset, .unset] [(.int (160 : Int32))])) _
            refine XS.goto X0.here hx rfl (pc0 := 60) (pc' := 79) rfl (hb hby own_d2_60) (by decide) (by decide) ?_
            exact k
          · by_cases hm67 : x0 = (240 : Int32)
            · have hq := hxlo
              rw [if_neg hm54, if_pos hm67] at hq
              rw [hq] at k
              show Steps p.tables e below (s₁.setTop (mkF m 54 #[.val (.int x0), .val (.int x1), .val (.int x2), .val (.int x3), .val (.int xn), .val (.int xsz), .unset, .unset] [(.int (224 : Int32)), (.int x0)])) _
              refine XS.icmpYes X0.here hx rfl (pc0 := 54) (pc' := 63) rfl (hb hby own_d2_54) rfl (feq hm54).2 (by decide) (by decide) ?_
              show Steps p.tables e below (s₁.setTop (mkF m 63 #[.val (.int x0), .val (.int x1), .val (.int x2), .val (.int x3), .val (.int xn), .val (.int xsz), .unset, .unset] [])) _
              refine XS.iloadN X0.here hx rfl (hb hby own_d2_63) rfl ?_
              show Steps p.tables e below (s₁.setTop (mkF m 64 #[.val (.int x0), .val (.int x1), .val (.int x2), .val (.int x3), .val (.int xn), .val (.int xsz), .unset, .unset] [(.int x0)])) _
              refine XS.sipush X0.here hx rfl (hb hby own_d2_64) ?_
              show Steps p.tables e below (s₁.setTop (mkF m 67 #[.val (.int x0), .val (.int x1), .val (.int x2), .val (.int x3), .val (.int xn), .val (.int xsz), .unset, .unset] [(.int (240 : Int32)), (.int x0)])) _
              refine XS.icmpNo X0.here hx rfl (hb hby own_d2_67) rfl (teq hm67).2 ?_
              show Steps p.tables e below (s₁.setTop (mkF m 70 #[.val (.int x0), .val (.int x1), .val (.int x2), .val (.int x3), .val (.int xn), .val (.int xsz), .unset, .unset] [])) _
              refine XS.sipush X0.here hx rfl (hb hby own_d2_70) ?_
              show Steps p.tables e below (s₁.setTop (mkF m 73 #[.val (.int x0), .val (.int x1), .val (.int x2), .val (.int x3), .val (.int xn), .val (.int xsz), .unset, .unset] [(.int (144 : Int32))])) _
              refine XS.goto X0.here hx rfl (pc0 := 73) (pc' := 79) rfl (hb hby own_d2_73) (by decide) (by decide) ?_
              exact k
            · have hq := hxlo
              rw [if_neg hm54, if_neg hm67] at hq
              rw [hq] at k
              show Steps p.tables e below (s₁.setTop (mkF m 54 #[.val (.int x0), .val (.int x1), .val (.int x2), .val (.int x3), .val (.int xn), .val (.int xsz), .unset, .unset] [(.int (224 : Int32)), (.int x0)])) _
              refine XS.icmpYes X0.here hx rfl (pc0 := 54) (pc' := 63) rfl (hb hby own_d2_54) rfl (feq hm54).2 (by decide) (by decide) ?_
              show Steps p.tables e below (s₁.setTop (mkF m 63 #[.val (.int x0), .val (.int x1), .val (.int x2), .val (.int x3), .val (.int xn), .val (.int xsz), .unset, .unset] [])) _
              refine XS.iloadN X0.here hx rfl (hb hby own_d2_63) rfl ?_
              show Steps p.tables e below (s₁.setTop (mkF m 64 #[.val (.int x0), .val (.int x1), .val (.int x2), .val (.int x3), .val (.int xn), .val (.int xsz), .unset, .unset] [(.int x0)])) _
              refine XS.sipush X0.here hx rfl (hb hby own_d2_64) ?_
              show Steps p.tables e below (s₁.setTop (mkF m 67 #[.val (.int x0), .val (.int x1), .val (.int x2), .val (.int x3), .val (.int xn), .val (.int xsz), .unset, .unset] [(.int (240 : Int32)), (.int x0)])) _
              refine XS.icmpYes X0.here hx rfl (pc0 := 67) (pc' := 76) rfl (hb hby own_d2_67) rfl (feq hm67).2 (by decide) (by decide) ?_
              show Steps p.tables e below (s₁.setTop (mkF m 76 #[.val (.int x0), .val (.int x1), .val (.int x2), .val (.int x3), .val (.int xn), .val (.int xsz), .unset, .unset] [])) _
              refine XS.sipush X0.here hx rfl (hb hby own_d2_76) ?_
              exact k
        have pre11 : ∀ t, Steps p.tables e below (s₁.setTop (mkF m 85 #[.val (.int x0), .val (.int x1), .val (.int x2), .val (.int x3), .val (.int xn), .val (.int xsz), .val (.int xlo), .unset] [(.int (237 : Int32)), (.int x0)])) t → Steps p.tables e below (s₁.setTop (entryFrame m #[(.int x0), (.int x1), (.int x2), (.int x3), (.int xn)] 8)) t := by
          intro t k
          refine pre10 _ ?_
          show Steps p.tables e below (s₁.setTop (mkF m 79 #[.val (.int x0), .val (.int x1), .val (.int x2), .val (.int x3), .val (.int xn), .val (.int xsz), .unset, .unset] [(.int xlo)])) _
          refine XS.istore X0.here hx rfl (hb hby own_d2_79) rfl (l' := #[.val (.int x0), .val (.int x1), .val (.int x2), .val (.int x3), .val (.int xn), .val (.int xsz), .val (.int xlo), .unset]) rfl ?_
          show Steps p.tables e below (s₁.setTop (mkF m 81 #[.val (.int x0), .val (.int x1), .val (.int x2), .val (.int x3), .val (.int xn), .val (.int xsz), .val (.int xlo), .unset] [])) _
          refine XS.iloadN X0.here hx rfl (hb hby own_d2_81) rfl ?_
          show Steps p.tables e below (s₁.setTop (mkF m 82 #[.val (.int x0), .val (.int x1), .val (.int x2), .val (.int x3), .val (.int xn), .val (.int xsz), .val (.int xlo), .unset] [(.int x0)])) _
          refine XS.sipush X0.here hx rfl (hb hby own_d2_82) ?_
          exact k
        obtain ⟨xhi, hxhi⟩ : ∃ w : Int32, w = (if x0 = (237 : Int32) then (159 : Int32) else (if x0 = (244 : Int32) then (143 : Int32) else (191 : Int32))) := ⟨_, rfl⟩
        have pre12 : ∀ t, Steps p.tables e below (s₁.setTop (mkF m 110 #[.val (.int x0), .val (.int x1), .val (.int x2), .val (.int x3), .val (.int xn), .val (.int xsz), .val (.int xlo), .unset] [(.int xhi)])) t → Steps p.tables e below (s₁.setTop (entryFrame m #[(.int x0), (.int x1), (.int x2), (.int x3), (.int xn)] 8)) t := by
          intro t k
          refine pre11 _ ?_
          by_cases hm85 : x0 = (237 : Int32)
          · have hq := hxhi
            rw [if_pos hm85] at hq
            rw [hq] at k
            show Steps p.tables e below (s₁.setTop (mkF m 85 #[.val (.int x0), .val (.int x1), .val (.int x2), .val (.int x3), .val (.int xn), .val (.int xsz), .val (.int xlo), .unset] [(.int (237 : Int32)), (.int x0)])) _
            refine XS.icmpNo X0.here hx rfl (hb hby own_d2_85) rfl (teq hm85).2 ?_
            show Steps p.tables e below (s₁.setTop (mkF m 88 #[.val (.int x0), .val (.int x1), .val (.int x2), .val (.int x3), .val (.int xn), .val (.int xsz), .val (.int xlo), .unset] [])) _
            refine XS.sipush X0.here hx rfl (hb hby own_d2_88) ?_
            show Steps p.tables e below (s₁.setTop (mkF m 91 #[.val (.int x0), .val (.int x1), .val (.int x2), .val (.int x3), .val (.int xn), .val (.int xsz), .val (.int xlo), .unset] [(.int (159 : Int32))])) _
            refine XS.goto X0.here hx rfl (pc0 := 91) (pc' := 110) rfl (hb hby own_d2_91) (by decide) (by decide) ?_
            exact k
          · by_cases hm98 : x0 = (244 : Int32)
            · have hq := hxhi
              rw [if_neg hm85, if_pos hm98] at hq
              rw [hq] at k
              show Steps p.tables e below (s₁.setTop (mkF m 85 #[.val (.int x0), .val (.int x1), .val (.int x2), .val (.int x3), .val (.int xn), .val (.int xsz), .val (.int xlo), .unset] [(.int (237 : Int32)), (.int x0)])) _
              refine XS.icmpYes X0.here hx rfl (pc0 := 85) (pc' := 94) rfl (hb hby own_d2_85) rfl (feq hm85).2 (by decide) (by decide) ?_
              show Steps p.tables e below (s₁.setTop (mkF m 94 #[.val (.int x0), .val (.int x1), .val (.int x2), .val (.int x3), .val (.int xn), .val (.int xsz), .val (.int xlo), .unset] [])) _
              refine XS.iloadN X0.here hx rfl (hb hby own_d2_94) rfl ?_
              show Steps p.tables e below (s₁.setTop (mkF m 95 #[.val (.int x0), .val (.int x1), .val (.int x2), .val (.int x3), .val (.int xn), .val (.int xsz), .val (.int xlo), .unset] [(.int x0)])) _
              refine XS.sipush X0.here hx rfl (hb hby own_d2_95) ?_
              show Steps p.tables e below (s₁.setTop (mkF m 98 #[.val (.int x0), .val (.int x1), .val (.int x2), .val (.int x3), .val (.int xn), .val (.int xsz), .val (.int xlo), .unset] [(.int (244 : Int32)), (.int x0)])) _
              refine XS.icmpNo X0.here hx rfl (hb hby own_d2_98) rfl (teq hm98).2 ?_
              show Steps p.tables e below (s₁.setTop (mkF m 101 #[.val (.int x0), .val (.int x1), .val (.int x2), .val (.int x3), .val (.int xn), .val (.int xsz), .val (.int xlo), .unset] [])) _
              refine XS.sipush X0.here hx rfl (hb hby own_d2_101) ?_
              show Steps p.tables e below (s₁.setTop (mkF m 104 #[.val (.int x0), .val (.int x1), .val (.int x2), .val (.int x3), .val (.int xn), .val (.int xsz), .val (.int xlo), .unset] [(.int (143 : Int32))])) _
              refine XS.goto X0.here hx rfl (pc0 := 104) (pc' := 110) rfl (hb hby own_d2_104) (by decide) (by decide) ?_
              exact k
            · have hq := hxhi
              rw [if_neg hm85, if_neg hm98] at hq
              rw [hq] at k
              show Steps p.tables e below (s₁.setTop (mkF m 85 #[.val (.int x0), .val (.int x1), .val (.int x2), .val (.int x3), .val (.int xn), .val (.int xsz), .val (.int xlo), .unset] [(.int (237 : Int32)), (.int x0)])) _
              refine XS.icmpYes X0.here hx rfl (pc0 := 85) (pc' := 94) rfl (hb hby own_d2_85) rfl (feq hm85).2 (by decide) (by decide) ?_
              show Steps p.tables e below (s₁.setTop (mkF m 94 #[.val (.int x0), .val (.int x1), .val (.int x2), .val (.int x3), .val (.int xn), .val (.int xsz), .val (.int xlo), .unset] [])) _
              refine XS.iloadN X0.here hx rfl (hb hby own_d2_94) rfl ?_
              show Steps p.tables e below (s₁.setTop (mkF m 95 #[.val (.int x0), .val (.int x1), .val (.int x2), .val (.int x3), .val (.int xn), .val (.int xsz), .val (.int xlo), .unset] [(.int x0)])) _
              refine XS.sipush X0.here hx rfl (hb hby own_d2_95) ?_
              show Steps p.tables e below (s₁.setTop (mkF m 98 #[.val (.int x0), .val (.int x1), .val (.int x2), .val (.int x3), .val (.int xn), .val (.int xsz), .val (.int xlo), .unset] [(.int (244 : Int32)), (.int x0)])) _
              refine XS.icmpYes X0.here hx rfl (pc0 := 98) (pc' := 107) rfl (hb hby own_d2_98) rfl (feq hm98).2 (by decide) (by decide) ?_
              show Steps p.tables e below (s₁.setTop (mkF m 107 #[.val (.int x0), .val (.int x1), .val (.int x2), .val (.int x3), .val (.int xn), .val (.int xsz), .val (.int xlo), .unset] [])) _
              refine XS.sipush X0.here hx rfl (hb hby own_d2_107) ?_
              exact k
        have pre13 : ∀ t, Steps p.tables e below (s₁.setTop (mkF m 115 #[.val (.int x0), .val (.int x1), .val (.int x2), .val (.int x3), .val (.int xn), .val (.int xsz), .val (.int xlo), .val (.int xhi)] [(.int (2 : Int32)), (.int xn)])) t → Steps p.tables e below (s₁.setTop (entryFrame m #[(.int x0), (.int x1), (.int x2), (.int x3), (.int xn)] 8)) t := by
          intro t k
          refine pre12 _ ?_
          show Steps p.tables e below (s₁.setTop (mkF m 110 #[.val (.int x0), .val (.int x1), .val (.int x2), .val (.int x3), .val (.int xn), .val (.int xsz), .val (.int xlo), .unset] [(.int xhi)])) _
          refine XS.istore X0.here hx rfl (hb hby own_d2_110) rfl (l' := #[.val (.int x0), .val (.int x1), .val (.int x2), .val (.int x3), .val (.int xn), .val (.int xsz), .val (.int xlo), .val (.int xhi)]) rfl ?_
          show Steps p.tables e below (s₁.setTop (mkF m 112 #[.val (.int x0), .val (.int x1), .val (.int x2), .val (.int x3), .val (.int xn), .val (.int xsz), .val (.int xlo), .val (.int xhi)] [])) _
          refine XS.iload X0.here hx rfl (hb hby own_d2_112) rfl ?_
          show Steps p.tables e below (s₁.setTop (mkF m 114 #[.val (.int x0), .val (.int x1), .val (.int x2), .val (.int x3), .val (.int xn), .val (.int xsz), .val (.int xlo), .val (.int xhi)] [(.int xn)])) _
          refine XS.iconst X0.here hx rfl (hb hby own_d2_114) ?_
          exact k
        by_cases hc115 : xn < (2 : Int32)
        · obtain ⟨fs, hr, hrun, hended, hW, hsame⟩ := X0.leave (v := some (.int (0 : Int32))) (fun h => by rw [Bd.returns] at h; cases h)
          have ev14 : (own_ex x0 x1 x2 x3 xn) = (0 : Int32) := by
            simp only [own_ex, ← hxlo, ← hxhi, ← hxsz]
            simp [hc4, hc13, hc20, hc115]
          refine ⟨_, _, pre13 _ ?_, hrun, hended, _, _, rfl, ?_, ⟨_, rfl⟩, hW, hsame.mono (by decide) (by decide)⟩
          · show Steps p.tables e below (s₁.setTop (mkF m 115 #[.val (.int x0), .val (.int x1), .val (.int x2), .val (.int x3), .val (.int xn), .val (.int xsz), .val (.int xlo), .val (.int xhi)] [(.int (2 : Int32)), (.int xn)])) _
            refine XS.icmpNo X0.here hx rfl (hb hby own_d2_115) rfl (tlt hc115).2.1 ?_
            show Steps p.tables e below (s₁.setTop (mkF m 118 #[.val (.int x0), .val (.int x1), .val (.int x2), .val (.int x3), .val (.int xn), .val (.int xsz), .val (.int xlo), .val (.int xhi)] [])) _
            refine XS.iconst X0.here hx rfl (hb hby own_d2_118) ?_
            show Steps p.tables e below (s₁.setTop (mkF m 119 #[.val (.int x0), .val (.int x1), .val (.int x2), .val (.int x3), .val (.int xn), .val (.int xsz), .val (.int xlo), .val (.int xhi)] [(.int (0 : Int32))])) _
            exact retI X0 hx Bd.returns (hb hby own_d2_119) hr
          · show own_Q2 Z x0 x1 x2 x3 xn h0 n0 _ s₁.heap _
            rw [e0]
            exact ⟨(by rw [ev14]), N0, rfl⟩
        · obtain ⟨_, _, ⟨T15, L15, k15, n15⟩, -, X15, ⟨Lc15, hQ15, l15, y15, z15⟩, st15⟩ := Jvm.LawKit.callS X0 hx (y := (⟨"com/example/stratafile/stratafile/io/Utf8CharacterSizePinLaw", "in", "(III)Z"⟩ : MethodName)) hown (mvT hZ (hw _ (List.mem_of_getElem? (i := 15) rfl))) (mvT hZ (hw _ (List.mem_of_getElem? (i := 16) rfl))) (mvT hZ (hw _ (List.mem_of_getElem? (i := 13) rfl))) (mvT hZ (hw _ (List.mem_of_getElem? (i := 17) rfl))) (by decide) (backOf (W := 0) (own_rm3 l Z a0 hw [] x1 xlo xhi h0 n0 Z0 ) hZ (hw _ (List.mem_of_getElem? (i := 17) rfl)) (hw _ (List.mem_of_getElem? (i := 13) rfl)) (by decide) (by decide)) (g := (mkF m 125 #[.val (.int x0), .val (.int x1), .val (.int x2), .val (.int x3), .val (.int xn), .val (.int xsz), .val (.int xlo), .val (.int xhi)] [(.int xhi), (.int xlo), (.int x1)])) rfl (by rw [hml]; rfl) (argsL := [(.int x1), (.int xlo), (.int xhi)]) (rest := []) (lenOf own_pd0 rfl) rfl (by show 2 * 0 + _ ≤ _; exact Nat.le_of_eq rfl) (hb hby own_d2_125) (fun _ _ => ⟨rfl, e0, (by decide : 0 + 0 ≤ _), (by decide : 0 + 0 ≤ _)⟩)
          dsimp only [Pt.U, Pt.locs, Pt.cells, Pt.slots] at X15 l15 y15 z15 st15 hQ15
          subst l15 y15 z15
          obtain ⟨rfl, N15q, eh15⟩ := hQ15
          have N15 := Fr.app N0 N15q
          have pre16 : ∀ t, Steps p.tables e below (T15.setTop (mkF m 128 #[.val (.int x0), .val (.int x1), .val (.int x2), .val (.int x3), .val (.int xn), .val (.int xsz), .val (.int xlo), .val (.int xhi)] [(.int (own_in x1 xlo xhi))])) t → Steps p.tables e below (s₁.setTop (entryFrame m #[(.int x0), (.int x1), (.int x2), (.int x3), (.int xn)] 8)) t := by
            intro t k
            refine pre13 _ ?_
            show Steps p.tables e below (s₁.setTop (mkF m 115 #[.val (.int x0), .val (.int x1), .val (.int x2), .val (.int x3), .val (.int xn), .val (.int xsz), .val (.int xlo), .val (.int xhi)] [(.int (2 : Int32)), (.int xn)])) _
            refine XS.icmpYes X0.here hx rfl (pc0 := 115) (pc' := 120) rfl (hb hby own_d2_115) rfl (flt hc115).2.1 (by decide) (by decide) ?_
            show Steps p.tables e below (s₁.setTop (mkF m 120 #[.val (.int x0), .val (.int x1), .val (.int x2), .val (.int x3), .val (.int xn), .val (.int xsz), .val (.int xlo), .val (.int xhi)] [])) _
            refine XS.iloadN X0.here hx rfl (hb hby own_d2_120) rfl ?_
            show Steps p.tables e below (s₁.setTop (mkF m 121 #[.val (.int x0), .val (.int x1), .val (.int x2), .val (.int x3), .val (.int xn), .val (.int xsz), .val (.int xlo), .val (.int xhi)] [(.int x1)])) _
            refine XS.iload X0.here hx rfl (hb hby own_d2_121) rfl ?_
            show Steps p.tables e below (s₁.setTop (mkF m 123 #[.val (.int x0), .val (.int x1), .val (.int x2), .val (.int x3), .val (.int xn), .val (.int xsz), .val (.int xlo), .val (.int xhi)] [(.int xlo), (.int x1)])) _
            refine XS.iload X0.here hx rfl (hb hby own_d2_123) rfl ?_
            show Steps p.tables e below (s₁.setTop (mkF m 125 #[.val (.int x0), .val (.int x1), .val (.int x2), .val (.int x3), .val (.int xn), .val (.int xsz), .val (.int xlo), .val (.int xhi)] [(.int xhi), (.int xlo), (.int x1)])) _
            refine st15 _ ?_
            exact k
          by_cases hc128 : (own_in x1 xlo xhi) = (0 : Int32)
          · obtain ⟨fs, hr, hrun, hended, hW, hsame⟩ := X15.leave (v := some (.int (-1 : Int32))) (fun h => by rw [Bd.returns] at h; cases h)
            have ev17 : (own_ex x0 x1 x2 x3 xn) = (-1 : Int32) := by
              simp only [own_ex, ← hxlo, ← hxhi, ← hxsz]
              simp [hc4, hc13, hc20, hc115, hc128]
            refine ⟨_, _, pre16 _ ?_, hrun, hended, _, _, rfl, ?_, ⟨_, rfl⟩, hW, hsame.mono (by decide) (by decide)⟩
            · show Steps p.tables e below (T15.setTop (mkF m 128 #[.val (.int x0), .val (.int x1), .val (.int x2), .val (.int x3), .val (.int xn), .val (.int xsz), .val (.int xlo), .val (.int xhi)] [(.int (own_in x1 xlo xhi))])) _
              refine XS.ifNo X15.here hx rfl (hb hby own_d2_128) rfl ((if0 _ _).trans (teq hc128).2) ?_
              show Steps p.tables e below (T15.setTop (mkF m 131 #[.val (.int x0), .val (.int x1), .val (.int x2), .val (.int x3), .val (.int xn), .val (.int xsz), .val (.int xlo), .val (.int xhi)] [])) _
              refine XS.iconst X15.here hx rfl (hb hby own_d2_131) ?_
              show Steps p.tables e below (T15.setTop (mkF m 132 #[.val (.int x0), .val (.int x1), .val (.int x2), .val (.int x3), .val (.int xn), .val (.int xsz), .val (.int xlo), .val (.int xhi)] [(.int (-1 : Int32))])) _
              exact retI X15 hx Bd.returns (hb hby own_d2_132) hr
            · show own_Q2 Z x0 x1 x2 x3 xn h0 n0 _ T15.heap _
              rw [eh15]
              exact ⟨(by rw [ev17]), N15, rfl⟩
          · have pre18 : ∀ t, Steps p.tables e below (T15.setTop (mkF m 136 #[.val (.int x0), .val (.int x1), .val (.int x2), .val (.int x3), .val (.int xn), .val (.int xsz), .val (.int xlo), .val (.int xhi)] [(.int (2 : Int32)), (.int xsz)])) t → Steps p.tables e below (s₁.setTop (entryFrame m #[(.int x0), (.int x1), (.int x2), (.int x3), (.int xn)] 8)) t := by
              intro t k
              refine pre16 _ ?_
              show Steps p.tables e below (T15.setTop (mkF m 128 #[.val (.int x0), .val (.int x1), .val (.int x2), .val (.int x3), .val (.int xn), .val (.int xsz), .val (.int xlo), .val (.int xhi)] [(.int (own_in x1 xlo xhi))])) _
              refine XS.ifYes X15.here hx rfl (pc0 := 128) (pc' := 133) rfl (hb hby own_d2_128) rfl ((if0 _ _).trans (feq hc128).2) (by decide) (by decide) ?_
              show Steps p.tables e below (T15.setTop (mkF m 133 #[.val (.int x0), .val (.int x1), .val (.int x2), .val (.int x3), .val (.int xn), .val (.int xsz), .val (.int xlo), .val (.int xhi)] [])) _
              refine XS.iload X15.here hx rfl (hb hby own_d2_133) rfl ?_
              show Steps p.tables e below (T15.setTop (mkF m 135 #[.val (.int x0), .val (.int x1), .val (.int x2), .val (.int x3), .val (.int xn), .val (.int xsz), .val (.int xlo), .val (.int xhi)] [(.int xsz)])) _
              refine XS.iconst X15.here hx rfl (hb hby own_d2_135) ?_
              exact k
            by_cases hc136 : xsz = (2 : Int32)
            · obtain ⟨fs, hr, hrun, hended, hW, hsame⟩ := X15.leave (v := some (.int (2 : Int32))) (fun h => by rw [Bd.returns] at h; cases h)
              have ev19 : (own_ex x0 x1 x2 x3 xn) = (2 : Int32) := by
                simp only [own_ex, ← hxlo, ← hxhi, ← hxsz]
                simp [hc4, hc13, hc20, hc115, hc128, hc136]
              refine ⟨_, _, pre18 _ ?_, hrun, hended, _, _, rfl, ?_, ⟨_, rfl⟩, hW, hsame.mono (by decide) (by decide)⟩
              · show Steps p.tables e below (T15.setTop (mkF m 136 #[.val (.int x0), .val (.int x1), .val (.int x2), .val (.int x3), .val (.int xn), .val (.int xsz), .val (.int xlo), .val (.int xhi)] [(.int (2 : Int32)), (.int xsz)])) _
                refine XS.icmpNo X15.here hx rfl (hb hby own_d2_136) rfl (teq hc136).2 ?_
                show Steps p.tables e below (T15.setTop (mkF m 139 #[.val (.int x0), .val (.int x1), .val (.int x2), .val (.int x3), .val (.int xn), .val (.int xsz), .val (.int xlo), .val (.int xhi)] [])) _
                refine XS.iconst X15.here hx rfl (hb hby own_d2_139) ?_
                show Steps p.tables e below (T15.setTop (mkF m 140 #[.val (.int x0), .val (.int x1), .val (.int x2), .val (.int x3), .val (.int xn), .val (.int xsz), .val (.int xlo), .val (.int xhi)] [(.int (2 : Int32))])) _
                exact retI X15 hx Bd.returns (hb hby own_d2_140) hr
              · show own_Q2 Z x0 x1 x2 x3 xn h0 n0 _ T15.heap _
                rw [eh15]
                exact ⟨(by rw [ev19]), N15, rfl⟩
            · have pre20 : ∀ t, Steps p.tables e below (T15.setTop (mkF m 144 #[.val (.int x0), .val (.int x1), .val (.int x2), .val (.int x3), .val (.int xn), .val (.int xsz), .val (.int xlo), .val (.int xhi)] [(.int (3 : Int32)), (.int xn)])) t → Steps p.tables e below (s₁.setTop (entryFrame m #[(.int x0), (.int x1), (.int x2), (.int x3), (.int xn)] 8)) t := by
                intro t k
                refine pre18 _ ?_
                show Steps p.tables e below (T15.setTop (mkF m 136 #[.val (.int x0), .val (.int x1), .val (.int x2), .val (.int x3), .val (.int xn), .val (.int xsz), .val (.int xlo), .val (.int xhi)] [(.int (2 : Int32)), (.int xsz)])) _
                refine XS.icmpYes X15.here hx rfl (pc0 := 136) (pc' := 141) rfl (hb hby own_d2_136) rfl (feq hc136).2 (by decide) (by decide) ?_
                show Steps p.tables e below (T15.setTop (mkF m 141 #[.val (.int x0), .val (.int x1), .val (.int x2), .val (.int x3), .val (.int xn), .val (.int xsz), .val (.int xlo), .val (.int xhi)] [])) _
                refine XS.iload X15.here hx rfl (hb hby own_d2_141) rfl ?_
                show Steps p.tables e below (T15.setTop (mkF m 143 #[.val (.int x0), .val (.int x1), .val (.int x2), .val (.int x3), .val (.int xn), .val (.int xsz), .val (.int xlo), .val (.int xhi)] [(.int xn)])) _
                refine XS.iconst X15.here hx rfl (hb hby own_d2_143) ?_
                exact k
              by_cases hc144 : xn < (3 : Int32)
              · obtain ⟨fs, hr, hrun, hended, hW, hsame⟩ := X15.leave (v := some (.int (0 : Int32))) (fun h => by rw [Bd.returns] at h; cases h)
                have ev21 : (own_ex x0 x1 x2 x3 xn) = (0 : Int32) := by
                  simp only [own_ex, ← hxlo, ← hxhi, ← hxsz]
                  simp [hc4, hc13, hc20, hc115, hc128, hc136, hc144]
                refine ⟨_, _, pre20 _ ?_, hrun, hended, _, _, rfl, ?_, ⟨_, rfl⟩, hW, hsame.mono (by decide) (by decide)⟩
                · show Steps p.tables e below (T15.setTop (mkF m 144 #[.val (.int x0), .val (.int x1), .val (.int x2), .val (.int x3), .val (.int xn), .val (.int xsz), .val (.int xlo), .val (.int xhi)] [(.int (3 : Int32)), (.int xn)])) _
                  refine XS.icmpNo X15.here hx rfl (hb hby own_d2_144) rfl (tlt hc144).2.1 ?_
                  show Steps p.tables e below (T15.setTop (mkF m 147 #[.val (.int x0), .val (.int x1), .val (.int x2), .val (.int x3), .val (.int xn), .val (.int xsz), .val (.int xlo), .val (.int xhi)] [])) _
                  refine XS.iconst X15.here hx rfl (hb hby own_d2_147) ?_
                  show Steps p.tables e below (T15.setTop (mkF m 148 #[.val (.int x0), .val (.int x1), .val (.int x2), .val (.int x3), .val (.int xn), .val (.int xsz), .val (.int xlo), .val (.int xhi)] [(.int (0 : Int32))])) _
                  exact retI X15 hx Bd.returns (hb hby own_d2_148) hr
                · show own_Q2 Z x0 x1 x2 x3 xn h0 n0 _ T15.heap _
                  rw [eh15]
                  exact ⟨(by rw [ev21]), N15, rfl⟩
              · obtain ⟨_, _, ⟨T22, L22, k22, n22⟩, -, X22, ⟨Lc22, hQ22, l22, y22, z22⟩, st22⟩ := Jvm.LawKit.callS X15 hx (y := (⟨"com/example/stratafile/stratafile/io/Utf8CharacterSizePinLaw", "in", "(III)Z"⟩ : MethodName)) hown (mvT hZ (hw _ (List.mem_of_getElem? (i := 15) rfl))) (mvT hZ (hw _ (List.mem_of_getElem? (i := 16) rfl))) (mvT hZ (hw _ (List.mem_of_getElem? (i := 13) rfl))) (mvT hZ (hw _ (List.mem_of_getElem? (i := 17) rfl))) (by decide) (backOf (W := 0) (own_rm3 l Z a0 hw [] x2 (128 : Int32) (191 : Int32) h0 n0 Z0 ) hZ (hw _ (List.mem_of_getElem? (i := 17) rfl)) (hw _ (List.mem_of_getElem? (i := 13) rfl)) (by decide) (by decide)) (g := (mkF m 156 #[.val (.int x0), .val (.int x1), .val (.int x2), .val (.int x3), .val (.int xn), .val (.int xsz), .val (.int xlo), .val (.int xhi)] [(.int (191 : Int32)), (.int (128 : Int32)), (.int x2)])) rfl (by rw [hml]; rfl) (argsL := [(.int x2), (.int (128 : Int32)), (.int (191 : Int32))]) (rest := []) (lenOf own_pd0 rfl) rfl (by show 2 * 0 + _ ≤ _; exact Nat.le_of_eq rfl) (hb hby own_d2_156) (fun _ _ => ⟨rfl, eh15, (by decide : 0 + 0 ≤ _), (by decide : 0 + 0 ≤ _)⟩)
                dsimp only [Pt.U, Pt.locs, Pt.cells, Pt.slots] at X22 l22 y22 z22 st22 hQ22
                subst l22 y22 z22
                obtain ⟨rfl, N22q, eh22⟩ := hQ22
                have N22 := Fr.app N15 N22q
                have pre23 : ∀ t, Steps p.tables e below (T22.setTop (mkF m 159 #[.val (.int x0), .val (.int x1), .val (.int x2), .val (.int x3), .val (.int xn), .val (.int xsz), .val (.int xlo), .val (.int xhi)] [(.int (own_in x2 (128 : Int32) (191 : Int32)))])) t → Steps p.tables e below (s₁.setTop (entryFrame m #[(.int x0), (.int x1), (.int x2), (.int x3), (.int xn)] 8)) t := by
                  intro t k
                  refine pre20 _ ?_
                  show Steps p.tables e below (T15.setTop (mkF m 144 #[.val (.int x0), .val (.int x1), .val (.int x2), .val (.int x3), .val (.int xn), .val (.int xsz), .val (.int xlo), .val (.int xhi)] [(.int (3 : Int32)), (.int xn)])) _
                  refine XS.icmpYes X15.here hx rfl (pc0 := 144) (pc' := 149) rfl (hb hby own_d2_144) rfl (flt hc144).2.1 (by decide) (by decide) ?_
                  show Steps p.tables e below (T15.setTop (mkF m 149 #[.val (.int x0), .val (.int x1), .val (.int x2), .val (.int x3), .val (.int xn), .val (.int xsz), .val (.int xlo), .val (.int xhi)] [])) _
                  refine XS.iloadN X15.here hx rfl (hb hby own_d2_149) rfl ?_
                  show Steps p.tables e below (T15.setTop (mkF m 150 #[.val (.int x0), .val (.int x1), .val (.int x2), .val (.int x3), .val (.int xn), .val (.int xsz), .val (.int xlo), .val (.int xhi)] [(.int x2)])) _
                  refine XS.sipush X15.here hx rfl (hb hby own_d2_150) ?_
                  show Steps p.tables e below (T15.setTop (mkF m 153 #[.val (.int x0), .val (.int x1), .val (.int x2), .val (.int x3), .val (.int xn), .val (.int xsz), .val (.int xlo), .val (.int xhi)] [(.int (128 : Int32)), (.int x2)])) _
                  refine XS.sipush X15.here hx rfl (hb hby own_d2_153) ?_
                  show Steps p.tables e below (T15.setTop (mkF m 156 #[.val (.int x0), .val (.int x1), .val (.int x2), .val (.int x3), .val (.int xn), .val (.int xsz), .val (.int xlo), .val (.int xhi)] [(.int (191 : Int32)), (.int (128 : Int32)), (.int x2)])) _
                  refine st22 _ ?_
                  exact k
                by_cases hc159 : (own_in x2 (128 : Int32) (191 : Int32)) = (0 : Int32)
                · obtain ⟨fs, hr, hrun, hended, hW, hsame⟩ := X22.leave (v := some (.int (-1 : Int32))) (fun h => by rw [Bd.returns] at h; cases h)
                  have ev24 : (own_ex x0 x1 x2 x3 xn) = (-1 : Int32) := by
                    simp only [own_ex, ← hxlo, ← hxhi, ← hxsz]
                    simp [hc4, hc13, hc20, hc115, hc128, hc136, hc144, hc159]
                  refine ⟨_, _, pre23 _ ?_, hrun, hended, _, _, rfl, ?_, ⟨_, rfl⟩, hW, hsame.mono (by decide) (by decide)⟩
                  · show Steps p.tables e below (T22.setTop (mkF m 159 #[.val (.int x0), .val (.int x1), .val (.int x2), .val (.int x3), .val (.int xn), .val (.int xsz), .val (.int xlo), .val (.int xhi)] [(.int (own_in x2 (128 : Int32) (191 : Int32)))])) _
                    refine XS.ifNo X22.here hx rfl (hb hby own_d2_159) rfl ((if0 _ _).trans (teq hc159).2) ?_
                    show Steps p.tables e below (T22.setTop (mkF m 162 #[.val (.int x0), .val (.int x1), .val (.int x2), .val (.int x3), .val (.int xn), .val (.int xsz), .val (.int xlo), .val (.int xhi)] [])) _
                    refine XS.iconst X22.here hx rfl (hb hby own_d2_162) ?_
                    show Steps p.tables e below (T22.setTop (mkF m 163 #[.val (.int x0), .val (.int x1), .val (.int x2), .val (.int x3), .val (.int xn), .val (.int xsz), .val (.int xlo), .val (.int xhi)] [(.int (-1 : Int32))])) _
                    exact retI X22 hx Bd.returns (hb hby own_d2_163) hr
                  · show own_Q2 Z x0 x1 x2 x3 xn h0 n0 _ T22.heap _
                    rw [eh22]
                    exact ⟨(by rw [ev24]), N22, rfl⟩
                · have pre25 : ∀ t, Steps p.tables e below (T22.setTop (mkF m 167 #[.val (.int x0), .val (.int x1), .val (.int x2), .val (.int x3), .val (.int xn), .val (.int xsz), .val (.int xlo), .val (.int xhi)] [(.int (3 : Int32)), (.int xsz)])) t → Steps p.tables e below (s₁.setTop (entryFrame m #[(.int x0), (.int x1), (.int x2), (.int x3), (.int xn)] 8)) t := by
                    intro t k
                    refine pre23 _ ?_
                    show Steps p.tables e below (T22.setTop (mkF m 159 #[.val (.int x0), .val (.int x1), .val (.int x2), .val (.int x3), .val (.int xn), .val (.int xsz), .val (.int xlo), .val (.int xhi)] [(.int (own_in x2 (128 : Int32) (191 : Int32)))])) _
                    refine XS.ifYes X22.here hx rfl (pc0 := 159) (pc' := 164) rfl (hb hby own_d2_159) rfl ((if0 _ _).trans (feq hc159).2) (by decide) (by decide) ?_
                    show Steps p.tables e below (T22.setTop (mkF m 164 #[.val (.int x0), .val (.int x1), .val (.int x2), .val (.int x3), .val (.int xn), .val (.int xsz), .val (.int xlo), .val (.int xhi)] [])) _
                    refine XS.iload X22.here hx rfl (hb hby own_d2_164) rfl ?_
                    show Steps p.tables e below (T22.setTop (mkF m 166 #[.val (.int x0), .val (.int x1), .val (.int x2), .val (.int x3), .val (.int xn), .val (.int xsz), .val (.int xlo), .val (.int xhi)] [(.int xsz)])) _
                    refine XS.iconst X22.here hx rfl (hb hby own_d2_166) ?_
                    exact k
                  by_cases hc167 : xsz = (3 : Int32)
                  · obtain ⟨fs, hr, hrun, hended, hW, hsame⟩ := X22.leave (v := some (.int (3 : Int32))) (fun h => by rw [Bd.returns] at h; cases h)
                    have ev26 : (own_ex x0 x1 x2 x3 xn) = (3 : Int32) := by
                      simp only [own_ex, ← hxlo, ← hxhi, ← hxsz]
                      simp [hc4, hc13, hc20, hc115, hc128, hc136, hc144, hc159, hc167]
                    refine ⟨_, _, pre25 _ ?_, hrun, hended, _, _, rfl, ?_, ⟨_, rfl⟩, hW, hsame.mono (by decide) (by decide)⟩
                    · show Steps p.tables e below (T22.setTop (mkF m 167 #[.val (.int x0), .val (.int x1), .val (.int x2), .val (.int x3), .val (.int xn), .val (.int xsz), .val (.int xlo), .val (.int xhi)] [(.int (3 : Int32)), (.int xsz)])) _
                      refine XS.icmpNo X22.here hx rfl (hb hby own_d2_167) rfl (teq hc167).2 ?_
                      show Steps p.tables e below (T22.setTop (mkF m 170 #[.val (.int x0), .val (.int x1), .val (.int x2), .val (.int x3), .val (.int xn), .val (.int xsz), .val (.int xlo), .val (.int xhi)] [])) _
                      refine XS.iconst X22.here hx rfl (hb hby own_d2_170) ?_
                      show Steps p.tables e below (T22.setTop (mkF m 171 #[.val (.int x0), .val (.int x1), .val (.int x2), .val (.int x3), .val (.int xn), .val (.int xsz), .val (.int xlo), .val (.int xhi)] [(.int (3 : Int32))])) _
                      exact retI X22 hx Bd.returns (hb hby own_d2_171) hr
                    · show own_Q2 Z x0 x1 x2 x3 xn h0 n0 _ T22.heap _
                      rw [eh22]
                      exact ⟨(by rw [ev26]), N22, rfl⟩
                  · have pre27 : ∀ t, Steps p.tables e below (T22.setTop (mkF m 175 #[.val (.int x0), .val (.int x1), .val (.int x2), .val (.int x3), .val (.int xn), .val (.int xsz), .val (.int xlo), .val (.int xhi)] [(.int (4 : Int32)), (.int xn)])) t → Steps p.tables e below (s₁.setTop (entryFrame m #[(.int x0), (.int x1), (.int x2), (.int x3), (.int xn)] 8)) t := by
                      intro t k
                      refine pre25 _ ?_
                      show Steps p.tables e below (T22.setTop (mkF m 167 #[.val (.int x0), .val (.int x1), .val (.int x2), .val (.int x3), .val (.int xn), .val (.int xsz), .val (.int xlo), .val (.int xhi)] [(.int (3 : Int32)), (.int xsz)])) _
                      refine XS.icmpYes X22.here hx rfl (pc0 := 167) (pc' := 172) rfl (hb hby own_d2_167) rfl (feq hc167).2 (by decide) (by decide) ?_
                      show Steps p.tables e below (T22.setTop (mkF m 172 #[.val (.int x0), .val (.int x1), .val (.int x2), .val (.int x3), .val (.int xn), .val (.int xsz), .val (.int xlo), .val (.int xhi)] [])) _
                      refine XS.iload X22.here hx rfl (hb hby own_d2_172) rfl ?_
                      show Steps p.tables e below (T22.setTop (mkF m 174 #[.val (.int x0), .val (.int x1), .val (.int x2), .val (.int x3), .val (.int xn), .val (.int xsz), .val (.int xlo), .val (.int xhi)] [(.int xn)])) _
                      refine XS.iconst X22.here hx rfl (hb hby own_d2_174) ?_
                      exact k
                    by_cases hc175 : xn < (4 : Int32)
                    · obtain ⟨fs, hr, hrun, hended, hW, hsame⟩ := X22.leave (v := some (.int (0 : Int32))) (fun h => by rw [Bd.returns] at h; cases h)
                      have ev28 : (own_ex x0 x1 x2 x3 xn) = (0 : Int32) := by
                        simp only [own_ex, ← hxlo, ← hxhi, ← hxsz]
                        simp [hc4, hc13, hc20, hc115, hc128, hc136, hc144, hc159, hc167, hc175]
                      refine ⟨_, _, pre27 _ ?_, hrun, hended, _, _, rfl, ?_, ⟨_, rfl⟩, hW, hsame.mono (by decide) (by decide)⟩
                      · show Steps p.tables e below (T22.setTop (mkF m 175 #[.val (.int x0), .val (.int x1), .val (.int x2), .val (.int x3), .val (.int xn), .val (.int xsz), .val (.int xlo), .val (.int xhi)] [(.int (4 : Int32)), (.int xn)])) _
                        refine XS.icmpNo X22.here hx rfl (hb hby own_d2_175) rfl (tlt hc175).2.1 ?_
                        show Steps p.tables e below (T22.setTop (mkF m 178 #[.val (.int x0), .val (.int x1), .val (.int x2), .val (.int x3), .val (.int xn), .val (.int xsz), .val (.int xlo), .val (.int xhi)] [])) _
                        refine XS.iconst X22.here hx rfl (hb hby own_d2_178) ?_
                        show Steps p.tables e below (T22.setTop (mkF m 179 #[.val (.int x0), .val (.int x1), .val (.int x2), .val (.int x3), .val (.int xn), .val (.int xsz), .val (.int xlo), .val (.int xhi)] [(.int (0 : Int32))])) _
                        exact retI X22 hx Bd.returns (hb hby own_d2_179) hr
                      · show own_Q2 Z x0 x1 x2 x3 xn h0 n0 _ T22.heap _
                        rw [eh22]
                        exact ⟨(by rw [ev28]), N22, rfl⟩
                    · obtain ⟨_, _, ⟨T29, L29, k29, n29⟩, -, X29, ⟨Lc29, hQ29, l29, y29, z29⟩, st29⟩ := Jvm.LawKit.callS X22 hx (y := (⟨"com/example/stratafile/stratafile/io/Utf8CharacterSizePinLaw", "in", "(III)Z"⟩ : MethodName)) hown (mvT hZ (hw _ (List.mem_of_getElem? (i := 15) rfl))) (mvT hZ (hw _ (List.mem_of_getElem? (i := 16) rfl))) (mvT hZ (hw _ (List.mem_of_getElem? (i := 13) rfl))) (mvT hZ (hw _ (List.mem_of_getElem? (i := 17) rfl))) (by decide) (backOf (W := 0) (own_rm3 l Z a0 hw [] x3 (128 : Int32) (191 : Int32) h0 n0 Z0 ) hZ (hw _ (List.mem_of_getElem? (i := 17) rfl)) (hw _ (List.mem_of_getElem? (i := 13) rfl)) (by decide) (by decide)) (g := (mkF m 187 #[.val (.int x0), .val (.int x1), .val (.int x2), .val (.int x3), .val (.int xn), .val (.int xsz), .val (.int xlo), .val (.int xhi)] [(.int (191 : Int32)), (.int (128 : Int32)), (.int x3)])) rfl (by rw [hml]; rfl) (argsL := [(.int x3), (.int (128 : Int32)), (.int (191 : Int32))]) (rest := []) (lenOf own_pd0 rfl) rfl (by show 2 * 0 + _ ≤ _; exact Nat.le_of_eq rfl) (hb hby own_d2_187) (fun _ _ => ⟨rfl, eh22, (by decide : 0 + 0 ≤ _), (by decide : 0 + 0 ≤ _)⟩)
                      dsimp only [Pt.U, Pt.locs, Pt.cells, Pt.slots] at X29 l29 y29 z29 st29 hQ29
                      subst l29 y29 z29
                      obtain ⟨rfl, N29q, eh29⟩ := hQ29
                      have N29 := Fr.app N22 N29q
                      have pre30 : ∀ t, Steps p.tables e below (T29.setTop (mkF m 190 #[.val (.int x0), .val (.int x1), .val (.int x2), .val (.int x3), .val (.int xn), .val (.int xsz), .val (.int xlo), .val (.int xhi)] [(.int (own_in x3 (128 : Int32) (191 : Int32)))])) t → Steps p.tables e below (s₁.setTop (entryFrame m #[(.int x0), (.int x1), (.int x2), (.int x3), (.int xn)] 8)) t := by
                        intro t k
                        refine pre27 _ ?_
                        show Steps p.tables e below (T22.setTop (mkF m 175 #[.val (.int x0), .val (.int x1), .val (.int x2), .val (.int x3), .val (.int xn), .val (.int xsz), .val (.int xlo), .val (.int xhi)] [(.int (4 : Int32)), (.int xn)])) _
                        refine XS.icmpYes X22.here hx rfl (pc0 := 175) (pc' := 180) rfl (hb hby own_d2_175) rfl (flt hc175).2.1 (by decide) (by decide) ?_
                        show Steps p.tables e below (T22.setTop (mkF m 180 #[.val (.int x0), .val (.int x1), .val (.int x2), .val (.int x3), .val (.int xn), .val (.int xsz), .val (.int xlo), .val (.int xhi)] [])) _
                        refine XS.iloadN X22.here hx rfl (hb hby own_d2_180) rfl ?_
                        show Steps p.tables e below (T22.setTop (mkF m 181 #[.val (.int x0), .val (.int x1), .val (.int x2), .val (.int x3), .val (.int xn), .val (.int xsz), .val (.int xlo), .val (.int xhi)] [(.int x3)])) _
                        refine XS.sipush X22.here hx rfl (hb hby own_d2_181) ?_
                        show Steps p.tables e below (T22.setTop (mkF m 184 #[.val (.int x0), .val (.int x1), .val (.int x2), .val (.int x3), .val (.int xn), .val (.int xsz), .val (.int xlo), .val (.int xhi)] [(.int (128 : Int32)), (.int x3)])) _
                        refine XS.sipush X22.here hx rfl (hb hby own_d2_184) ?_
                        show Steps p.tables e below (T22.setTop (mkF m 187 #[.val (.int x0), .val (.int x1), .val (.int x2), .val (.int x3), .val (.int xn), .val (.int xsz), .val (.int xlo), .val (.int xhi)] [(.int (191 : Int32)), (.int (128 : Int32)), (.int x3)])) _
                        refine st29 _ ?_
                        exact k
                      by_cases hc190 : (own_in x3 (128 : Int32) (191 : Int32)) = (0 : Int32)
                      · obtain ⟨fs, hr, hrun, hended, hW, hsame⟩ := X29.leave (v := some (.int (-1 : Int32))) (fun h => by rw [Bd.returns] at h; cases h)
                        have ev31 : (own_ex x0 x1 x2 x3 xn) = (-1 : Int32) := by
                          simp only [own_ex, ← hxlo, ← hxhi, ← hxsz]
                          simp [hc4, hc13, hc20, hc115, hc128, hc136, hc144, hc159, hc167, hc175, hc190]
                        refine ⟨_, _, pre30 _ ?_, hrun, hended, _, _, rfl, ?_, ⟨_, rfl⟩, hW, hsame.mono (by decide) (by decide)⟩
                        · show Steps p.tables e below (T29.setTop (mkF m 190 #[.val (.int x0), .val (.int x1), .val (.int x2), .val (.int x3), .val (.int xn), .val (.int xsz), .val (.int xlo), .val (.int xhi)] [(.int (own_in x3 (128 : Int32) (191 : Int32)))])) _
                          refine XS.ifNo X29.here hx rfl (hb hby own_d2_190) rfl ((if0 _ _).trans (teq hc190).2) ?_
                          show Steps p.tables e below (T29.setTop (mkF m 193 #[.val (.int x0), .val (.int x1), .val (.int x2), .val (.int x3), .val (.int xn), .val (.int xsz), .val (.int xlo), .val (.int xhi)] [])) _
                          refine XS.iconst X29.here hx rfl (hb hby own_d2_193) ?_
                          show Steps p.tables e below (T29.setTop (mkF m 194 #[.val (.int x0), .val (.int x1), .val (.int x2), .val (.int x3), .val (.int xn), .val (.int xsz), .val (.int xlo), .val (.int xhi)] [(.int (-1 : Int32))])) _
                          exact retI X29 hx Bd.returns (hb hby own_d2_194) hr
                        · show own_Q2 Z x0 x1 x2 x3 xn h0 n0 _ T29.heap _
                          rw [eh29]
                          exact ⟨(by rw [ev31]), N29, rfl⟩
                      · obtain ⟨fs, hr, hrun, hended, hW, hsame⟩ := X29.leave (v := some (.int (4 : Int32))) (fun h => by rw [Bd.returns] at h; cases h)
                        have ev32 : (own_ex x0 x1 x2 x3 xn) = (4 : Int32) := by
                          simp only [own_ex, ← hxlo, ← hxhi, ← hxsz]
                          simp [hc4, hc13, hc20, hc115, hc128, hc136, hc144, hc159, hc167, hc175, hc190]
                        refine ⟨_, _, pre30 _ ?_, hrun, hended, _, _, rfl, ?_, ⟨_, rfl⟩, hW, hsame.mono (by decide) (by decide)⟩
                        · show Steps p.tables e below (T29.setTop (mkF m 190 #[.val (.int x0), .val (.int x1), .val (.int x2), .val (.int x3), .val (.int xn), .val (.int xsz), .val (.int xlo), .val (.int xhi)] [(.int (own_in x3 (128 : Int32) (191 : Int32)))])) _
                          refine XS.ifYes X29.here hx rfl (pc0 := 190) (pc' := 195) rfl (hb hby own_d2_190) rfl ((if0 _ _).trans (feq hc190).2) (by decide) (by decide) ?_
                          show Steps p.tables e below (T29.setTop (mkF m 195 #[.val (.int x0), .val (.int x1), .val (.int x2), .val (.int x3), .val (.int xn), .val (.int xsz), .val (.int xlo), .val (.int xhi)] [])) _
                          refine XS.iconst X29.here hx rfl (hb hby own_d2_195) ?_
                          show Steps p.tables e below (T29.setTop (mkF m 196 #[.val (.int x0), .val (.int x1), .val (.int x2), .val (.int x3), .val (.int xn), .val (.int xsz), .val (.int xlo), .val (.int xhi)] [(.int (4 : Int32))])) _
                          exact retI X29 hx Bd.returns (hb hby own_d2_196) hr
                        · show own_Q2 Z x0 x1 x2 x3 xn h0 n0 _ T29.heap _
                          rw [eh29]
                          exact ⟨(by rw [ev32]), N29, rfl⟩
theorem own_pd1 : parseMethodDescriptor "([BII)I" = some ⟨[(.array .byte), .int, .int], some .int⟩ := by decide +kernel
theorem own_pd2 : parseMethodDescriptor "(IIIII)I" = some ⟨[.int, .int, .int, .int, .int], some .int⟩ := by decide +kernel
def own_Q0 (Z : State) (y1 : Int32) (y2 : Int32) (y3 : Int32) (y4 : Int32) (y5 : Int32) (y6 : Int32) (wS : Addr) (cS : Cell) (wL : Addr) (cL : Cell) (wH : Addr) (cH : Cell) (h0 : Heap) (n0 : Nat) (v : Option Value) (h : Heap) (L : List Loc) : Prop := v = some (.int (1 : Int32)) ∧ Fr n0 L
theorem own_ef0 (m : MethodId) (y1 : Int32) (y2 : Int32) (y3 : Int32) (y4 : Int32) (y5 : Int32) (y6 : Int32) : entryFrame m #[(.int y1), (.int y2), (.int y3), (.int y4), (.int y5), (.int y6)] maxLocals = mkF m 0 #[.val (.int y1), .val (.int y2), .val (.int y3), .val (.int y4), .val (.int y5), .val (.int y6), .unset, .unset, .unset, .unset, .unset, .unset, .unset, .unset, .unset] [] := by first | (simp [entryFrame, mkF, argsToLocals, Value.category, maxLocals]; done) | rfl
set_option maxRecDepth 65536 in
set_option maxHeartbeats 40000000 in
theorem own_rm0 (l : Launch) (Z : State) (a0 : Array Value) (hw : ∀ d ∈ tables_1, d.before a0 Z = true) (ws : List Jvm.Cond) (y1 : Int32) (y2 : Int32) (y3 : Int32) (y4 : Int32) (y5 : Int32) (y6 : Int32) (wS : Addr) (cS : Cell) (wL : Addr) (cL : Cell) (wH : Addr) (cH : Cell) (h0 : Heap) (n0 : Nat) (Z0 : n0 ≤ h0.size) (S_SIZES : Sta Z h0 "com/example/stratafile/stratafile/io/Utf8" "SIZES" "[B" (.ref wS)) (R_wS : Arr Z h0 wS cS .byte) (S_SECOND_LOWEST : Sta Z h0 "com/example/stratafile/stratafile/io/Utf8" "SECOND_LOWEST" "[I" (.ref wL)) (R_wL : Arr Z h0 wL cL .int) (S_SECOND_HIGHEST : Sta Z h0 "com/example/stratafile/stratafile/io/Utf8" "SECOND_HIGHEST" "[I" (.ref wH)) (R_wH : Arr Z h0 wH cH .int) (szcS : cS.slots.size = (256 : Int32).toNatClampNeg) (tacS : ∀ j : Int32, ¬ (j < 0 ∨ cS.slots.size ≤ j.toNatClampNeg) → cS.slots[j.toNatClampNeg]? = some (.int (own_szT j))) (szcL : cL.slots.size = (256 : Int32).toNatClampNeg) (tacL : ∀ j : Int32, ¬ (j < 0 ∨ cL.slots.size ≤ j.toNatClampNeg) → cL.slots[j.toNatClampNeg]? = some (.int (own_loT j))) (szcH : cH.slots.size = (256 : Int32).toNatClampNeg) (tacH : ∀ j : Int32, ¬ (j < 0 ∨ cH.slots.size ≤ j.toNatClampNeg) → cH.slots[j.toNatClampNeg]? = some (.int (own_hiT j))) :
    MetFree l x (head1 (Jvm.Cond.code x code maxLocals ret :: ws) room_1) (fun a U => a = #[(.int y1), (.int y2), (.int y3), (.int y4), (.int y5), (.int y6)] ∧ Z.Warmed39 U.vm ∧ U.heap = h0) (fun _ _ _ _ _ => True) (fun _ U o U' => ∃ v L, o = .returned v ∧ own_Q0 Z y1 y2 y3 y4 y5 y6 wS cS wL cL wH cH h0 n0 v U'.heap L ∧ FrameEnd U o U' L room_1.cells room_1.slots) := by
  refine MetFree.of_bodySF (plainFor_of_name own_pn0) hisR ?_
  intro p e s m args below meth c s₁ Bd hml0 hP hK
  obtain ⟨rfl, hZ, hh⟩ := hP
  have hx := Bd.exec
  have hby := Bd.bytes
  have hml : c.maxLocals = 15 := hml0
  have hown : s.vm.findClass "com/example/stratafile/stratafile/io/Utf8CharacterSizePinLaw" = some m.cls := findClass_of_methodNamed Bd.named
  have hnm := (name_of_methodNamed Bd.named Bd.method).1
  have X0 : Stand p l e room_1 s m #[(.int y1), (.int y2), (.int y3), (.int y4), (.int y5), (.int y6)] below meth c s₁ [] 0 0 := Stand.of_body Bd
  have e0 : s₁.heap = h0 := by rw [← hh, Bd.state]; rfl
  have N0 := Fr.nil n0
  have pre0 : ∀ t, Steps p.tables e below (s₁.setTop (mkF m 0 #[.val (.int y1), .val (.int y2), .val (.int y3), .val (.int y4), .val (.int y5), .val (.int y6), .unset, .unset, .unset, .unset, .unset, .unset, .unset, .unset, .unset] [])) t → Steps p.tables e below (s₁.setTop (entryFrame m #[(.int y1), (.int y2), (.int y3), (.int y4), (.int y5), (.int y6)] maxLocals)) t := fun t k => castTop (own_ef0 m y1 y2 y3 y4 y5 y6) k
  have K0 : Keep h0 h0 [] := Keep.refl _ _
  obtain ⟨v5, hv5⟩ : ∃ w : Int32, w = (y1 &&& (255 : Int32)) := ⟨_, rfl⟩
  have pre1 : ∀ t, Steps p.tables e below (s₁.setTop (mkF m 7 #[.val (.int y1), .val (.int y2), .val (.int y3), .val (.int y4), .val (.int y5), .val (.int y6), .val (.int v5), .unset, .unset, .unset, .unset, .unset, .unset, .unset, .unset] [])) t → Steps p.tables e below (s₁.setTop (entryFrame m #[(.int y1), (.int y2), (.int y3), (.int y4), (.int y5), (.int y6)] maxLocals)) t := by
    intro t k
    rw [hv5] at k
    refine pre0 _ ?_
    show Steps p.tables e below (s₁.setTop (mkF m 0 #[.val (.int y1), .val (.int y2), .val (.int y3), .val (.int y4), .val (.int y5), .val (.int y6), .unset, .unset, .unset, .unset, .unset, .unset, .unset, .unset, .unset] [])) _
    refine XS.iloadN X0.here hx rfl (hb hby at_0) rfl ?_
    show Steps p.tables e below (s₁.setTop (mkF m 1 #[.val (.int y1), .val (.int y2), .val (.int y3), .val (.int y4), .val (.int y5), .val (.int y6), .unset, .unset, .unset, .unset, .unset, .unset, .unset, .unset, .unset] [(.int y1)])) _
    refine XS.sipush X0.here hx rfl (hb hby at_1) ?_
    show Steps p.tables e below (s₁.setTop (mkF m 4 #[.val (.int y1), .val (.int y2), .val (.int y3), .val (.int y4), .val (.int y5), .val (.int y6), .unset, .unset, .unset, .unset, .unset, .unset, .unset, .unset, .unset] [(.int (255 : Int32)), (.int y1)])) _
    refine XS.iand X0.here hx rfl (hb hby at_4) rfl ?_
    show Steps p.tables e below (s₁.setTop (mkF m 5 #[.val (.int y1), .val (.int y2), .val (.int y3), .val (.int y4), .val (.int y5), .val (.int y6), .unset, .unset, .unset, .unset, .unset, .unset, .unset, .unset, .unset] [(.int (y1 &&& (255 : Int32)))])) _
    refine XS.istore X0.here hx rfl (hb hby at_5) rfl (l' := #[.val (.int y1), .val (.int y2), .val (.int y3), .val (.int y4), .val (.int y5), .val (.int y6), .val (.int (y1 &&& (255 : Int32))), .unset, .unset, .unset, .unset, .unset, .unset, .unset, .unset]) rfl ?_
    exact k
  obtain ⟨v12, hv12⟩ : ∃ w : Int32, w = (y2 &&& (255 : Int32)) := ⟨_, rfl⟩
  have pre2 : ∀ t, Steps p.tables e below (s₁.setTop (mkF m 14 #[.val (.int y1), .val (.int y2), .val (.int y3), .val (.int y4), .val (.int y5), .val (.int y6), .val (.int v5), .val (.int v12), .unset, .unset, .unset, .unset, .unset, .unset, .unset] [])) t → Steps p.tables e below (s₁.setTop (entryFrame m #[(.int y1), (.int y2), (.int y3), (.int y4), (.int y5), (.int y6)] maxLocals)) t := by
    intro t k
    rw [hv12] at k
    refine pre1 _ ?_
    show Steps p.tables e below (s₁.setTop (mkF m 7 #[.val (.int y1), .val (.int y2), .val (.int y3), .val (.int y4), .val (.int y5), .val (.int y6), .val (.int v5), .unset, .unset, .unset, .unset, .unset, .unset, .unset, .unset] [])) _
    refine XS.iloadN X0.here hx rfl (hb hby at_7) rfl ?_
    show Steps p.tables e below (s₁.setTop (mkF m 8 #[.val (.int y1), .val (.int y2), .val (.int y3), .val (.int y4), .val (.int y5), .val (.int y6), .val (.int v5), .unset, .unset, .unset, .unset, .unset, .unset, .unset, .unset] [(.int y2)])) _
    refine XS.sipush X0.here hx rfl (hb hby at_8) ?_
    show Steps p.tables e below (s₁.setTop (mkF m 11 #[.val (.int y1), .val (.int y2), .val (.int y3), .val (.int y4), .val (.int y5), .val (.int y6), .val (.int v5), .unset, .unset, .unset, .unset, .unset, .unset, .unset, .unset] [(.int (255 : Int32)), (.int y2)])) _
    refine XS.iand X0.here hx rfl (hb hby at_11) rfl ?_
    show Steps p.tables e below (s₁.setTop (mkF m 12 #[.val (.int y1), .val (.int y2), .val (.int y3), .val (.int y4), .val (.int y5), .val (.int y6), .val (.int v5), .unset, .unset, .unset, .unset, .unset, .unset, .unset, .unset] [(.int (y2 &&& (255 : Int32)))])) _
    refine XS.istore X0.here hx rfl (hb hby at_12) rfl (l' := #[.val (.int y1), .val (.int y2), .val (.int y3), .val (.int y4), .val (.int y5), .val (.int y6), .val (.int v5), .val (.int (y2 &&& (255 : Int32))), .unset, .unset, .unset, .unset, .unset, .unset, .unset]) rfl ?_
    exact k
  obtain ⟨v19, hv19⟩ : ∃ w : Int32, w = (y3 &&& (255 : Int32)) := ⟨_, rfl⟩
  have pre3 : ∀ t, Steps p.tables e below (s₁.setTop (mkF m 21 #[.val (.int y1), .val (.int y2), .val (.int y3), .val (.int y4), .val (.int y5), .val (.int y6), .val (.int v5), .val (.int v12), .val (.int v19), .unset, .unset, .unset, .unset, .unset, .unset] [])) t → Steps p.tables e below (s₁.setTop (entryFrame m #[(.int y1), (.int y2), (.int y3), (.int y4), (.int y5), (.int y6)] maxLocals)) t := by
    intro t k
    rw [hv19] at k
    refine pre2 _ ?_
    show Steps p.tables e below (s₁.setTop (mkF m 14 #[.val (.int y1), .val (.int y2), .val (.int y3), .val (.int y4), .val (.int y5), .val (.int y6), .val (.int v5), .val (.int v12), .unset, .unset, .unset, .unset, .unset, .unset, .unset] [])) _
    refine XS.iloadN X0.here hx rfl (hb hby at_14) rfl ?_
    show Steps p.tables e below (s₁.setTop (mkF m 15 #[.val (.int y1), .val (.int y2), .val (.int y3), .val (.int y4), .val (.int y5), .val (.int y6), .val (.int v5), .val (.int v12), .unset, .unset, .unset, .unset, .unset, .unset, .unset] [(.int y3)])) _
    refine XS.sipush X0.here hx rfl (hb hby at_15) ?_
    show Steps p.tables e below (s₁.setTop (mkF m 18 #[.val (.int y1), .val (.int y2), .val (.int y3), .val (.int y4), .val (.int y5), .val (.int y6), .val (.int v5), .val (.int v12), .unset, .unset, .unset, .unset, .unset, .unset, .unset] [(.int (255 : Int32)), (.int y3)])) _
    refine XS.iand X0.here hx rfl (hb hby at_18) rfl ?_
    show Steps p.tables e below (s₁.setTop (mkF m 19 #[.val (.int y1), .val (.int y2), .val (.int y3), .val (.int y4), .val (.int y5), .val (.int y6), .val (.int v5), .val (.int v12), .unset, .unset, .unset, .unset, .unset, .unset, .unset] [(.int (y3 &&& (255 : Int32)))])) _
    refine XS.istore X0.here hx rfl (hb hby at_19) rfl (l' := #[.val (.int y1), .val (.int y2), .val (.int y3), .val (.int y4), .val (.int y5), .val (.int y6), .val (.int v5), .val (.int v12), .val (.int (y3 &&& (255 : Int32))), .unset, .unset, .unset, .unset, .unset, .unset]) rfl ?_
    exact k
  obtain ⟨v26, hv26⟩ : ∃ w : Int32, w = (y4 &&& (255 : Int32)) := ⟨_, rfl⟩
  have pre4 : ∀ t, Steps p.tables e below (s₁.setTop (mkF m 28 #[.val (.int y1), .val (.int y2), .val (.int y3), .val (.int y4), .val (.int y5), .val (.int y6), .val (.int v5), .val (.int v12), .val (.int v19), .val (.int v26), .unset, .unset, .unset, .unset, .unset] [])) t → Steps p.tables e below (s₁.setTop (entryFrame m #[(.int y1), (.int y2), (.int y3), (.int y4), (.int y5), (.int y6)] maxLocals)) t := by
    intro t k
    rw [hv26] at k
    refine pre3 _ ?_
    show Steps p.tables e below (s₁.setTop (mkF m 21 #[.val (.int y1), .val (.int y2), .val (.int y3), .val (.int y4), .val (.int y5), .val (.int y6), .val (.int v5), .val (.int v12), .val (.int v19), .unset, .unset, .unset, .unset, .unset, .unset] [])) _
    refine XS.iloadN X0.here hx rfl (hb hby at_21) rfl ?_
    show Steps p.tables e below (s₁.setTop (mkF m 22 #[.val (.int y1), .val (.int y2), .val (.int y3), .val (.int y4), .val (.int y5), .val (.int y6), .val (.int v5), .val (.int v12), .val (.int v19), .unset, .unset, .unset, .unset, .unset, .unset] [(.int y4)])) _
    refine XS.sipush X0.here hx rfl (hb hby at_22) ?_
    show Steps p.tables e below (s₁.setTop (mkF m 25 #[.val (.int y1), .val (.int y2), .val (.int y3), .val (.int y4), .val (.int y5), .val (.int y6), .val (.int v5), .val (.int v12), .val (.int v19), .unset, .unset, .unset, .unset, .unset, .unset] [(.int (255 : Int32)), (.int y4)])) _
    refine XS.iand X0.here hx rfl (hb hby at_25) rfl ?_
    show Steps p.tables e below (s₁.setTop (mkF m 26 #[.val (.int y1), .val (.int y2), .val (.int y3), .val (.int y4), .val (.int y5), .val (.int y6), .val (.int v5), .val (.int v12), .val (.int v19), .unset, .unset, .unset, .unset, .unset, .unset] [(.int (y4 &&& (255 : Int32)))])) _
    refine XS.istore X0.here hx rfl (hb hby at_26) rfl (l' := #[.val (.int y1), .val (.int y2), .val (.int y3), .val (.int y4), .val (.int y5), .val (.int y6), .val (.int v5), .val (.int v12), .val (.int v19), .val (.int (y4 &&& (255 : Int32))), .unset, .unset, .unset, .unset, .unset]) rfl ?_
    exact k
  obtain ⟨v32, hv32⟩ : ∃ w : Int32, w = (y6 &&& (1 : Int32)) := ⟨_, rfl⟩
  have pre5 : ∀ t, Steps p.tables e below (s₁.setTop (mkF m 34 #[.val (.int y1), .val (.int y2), .val (.int y3), .val (.int y4), .val (.int y5), .val (.int y6), .val (.int v5), .val (.int v12), .val (.int v19), .val (.int v26), .val (.int v32), .unset, .unset, .unset, .unset] [])) t → Steps p.tables e below (s₁.setTop (entryFrame m #[(.int y1), (.int y2), (.int y3), (.int y4), (.int y5), (.int y6)] maxLocals)) t := by
    intro t k
    rw [hv32] at k
    refine pre4 _ ?_
    show Steps p.tables e below (s₁.setTop (mkF m 28 #[.val (.int y1), .val (.int y2), .val (.int y3), .val (.int y4), .val (.int y5), .val (.int y6), .val (.int v5), .val (.int v12), .val (.int v19), .val (.int v26), .unset, .unset, .unset, .unset, .unset] [])) _
    refine XS.iload X0.here hx rfl (hb hby at_28) rfl ?_
    show Steps p.tables e below (s₁.setTop (mkF m 30 #[.val (.int y1), .val (.int y2), .val (.int y3), .val (.int y4), .val (.int y5), .val (.int y6), .val (.int v5), .val (.int v12), .val (.int v19), .val (.int v26), .unset, .unset, .unset, .unset, .unset] [(.int y6)])) _
    refine XS.iconst X0.here hx rfl (hb hby at_30) ?_
    show Steps p.tables e below (s₁.setTop (mkF m 31 #[.val (.int y1), .val (.int y2), .val (.int y3), .val (.int y4), .val (.int y5), .val (.int y6), .val (.int v5), .val (.int v12), .val (.int v19), .val (.int v26), .unset, .unset, .unset, .unset, .unset] [(.int (1 : Int32)), (.int y6)])) _
    refine XS.iand X0.here hx rfl (hb hby at_31) rfl ?_
    show Steps p.tables e below (s₁.setTop (mkF m 32 #[.val (.int y1), .val (.int y2), .val (.int y3), .val (.int y4), .val (.int y5), .val (.int y6), .val (.int v5), .val (.int v12), .val (.int v19), .val (.int v26), .unset, .unset, .unset, .unset, .unset] [(.int (y6 &&& (1 : Int32)))])) _
    refine XS.istore X0.here hx rfl (hb hby at_32) rfl (l' := #[.val (.int y1), .val (.int y2), .val (.int y3), .val (.int y4), .val (.int y5), .val (.int y6), .val (.int v5), .val (.int v12), .val (.int v19), .val (.int v26), .val (.int (y6 &&& (1 : Int32))), .unset, .unset, .unset, .unset]) rfl ?_
    exact k
  rcases (hv32 ▸ own_two y6 : v32 = (0 : Int32) ∨ v32 = (1 : Int32)) with hs_v32 | hs_v32
  · subst hs_v32
    obtain ⟨v40, hv40⟩ : ∃ w : Int32, w = ((1 : Int32) + (y5 &&& (3 : Int32))) := ⟨_, rfl⟩
    have pre6 : ∀ t, Steps p.tables e below (s₁.setTop (mkF m 42 #[.val (.int y1), .val (.int y2), .val (.int y3), .val (.int y4), .val (.int y5), .val (.int y6), .val (.int v5), .val (.int v12), .val (.int v19), .val (.int v26), .val (.int (0 : Int32)), .val (.int v40), .unset, .unset, .unset] [])) t → Steps p.tables e below (s₁.setTop (entryFrame m #[(.int y1), (.int y2), (.int y3), (.int y4), (.int y5), (.int y6)] maxLocals)) t := by
      intro t k
      rw [hv40] at k
      refine pre5 _ ?_
      show Steps p.tables e below (s₁.setTop (mkF m 34 #[.val (.int y1), .val (.int y2), .val (.int y3), .val (.int y4), .val (.int y5), .val (.int y6), .val (.int v5), .val (.int v12), .val (.int v19), .val (.int v26), .val (.int (0 : Int32)), .unset, .unset, .unset, .unset] [])) _
      refine XS.iconst X0.here hx rfl (hb hby at_34) ?_
      show Steps p.tables e below (s₁.setTop (mkF m 35 #[.val (.int y1), .val (.int y2), .val (.int y3), .val (.int y4), .val (.int y5), .val (.int y6), .val (.int v5), .val (.int v12), .val (.int v19), .val (.int v26), .val (.int (0 : Int32)), .unset, .unset, .unset, .unset] [(.int (1 : Int32))])) _
      refine XS.iload X0.here hx rfl (hb hby at_35) rfl ?_
      show Steps p.tables e below (s₁.setTop (mkF m 37 #[.val (.int y1), .val (.int y2), .val (.int y3), .val (.int y4), .val (.int y5), .val (.int y6), .val (.int v5), .val (.int v12), .val (.int v19), .val (.int v26), .val (.int (0 : Int32)), .unset, .unset, .unset, .unset] [(.int y5), (.int (1 : Int32))])) _
      refine XS.iconst X0.here hx rfl (hb hby at_37) ?_
      show Steps p.tables e below (s₁.setTop (mkF m 38 #[.val (.int y1), .val (.int y2), .val (.int y3), .val (.int y4), .val (.int y5), .val (.int y6), .val (.int v5), .val (.int v12), .val (.int v19), .val (.int v26), .val (.int (0 : Int32)), .unset, .unset, .unset, .unset] [(.int (3 : Int32)), (.int y5), (.int (1 : Int32))])) _
      refine XS.iand X0.here hx rfl (hb hby at_38) rfl ?_
      show Steps p.tables e below (s₁.setTop (mkF m 39 #[.val (.int y1), .val (.int y2), .val (.int y3), .val (.int y4), .val (.int y5), .val (.int y6), .val (.int v5), .val (.int v12), .val (.int v19), .val (.int v26), .val (.int (0 : Int32)), .unset, .unset, .unset, .unset] [(.int (y5 &&& (3 : Int32))), (.int (1 : Int32))])) _
      refine XS.iadd X0.here hx rfl (hb hby at_39) rfl ?_
      show Steps p.tables e below (s₁.setTop (mkF m 40 #[.val (.int y1), .val (.int y2), .val (.int y3), .val (.int y4), .val (.int y5), .val (.int y6), .val (.int v5), .val (.int v12), .val (.int v19), .val (.int v26), .val (.int (0 : Int32)), .unset, .unset, .unset, .unset] [(.int ((1 : Int32) + (y5 &&& (3 : Int32))))])) _
      refine XS.istore X0.here hx rfl (hb hby at_40) rfl (l' := #[.val (.int y1), .val (.int y2), .val (.int y3), .val (.int y4), .val (.int y5), .val (.int y6), .val (.int v5), .val (.int v12), .val (.int v19), .val (.int v26), .val (.int (0 : Int32)), .val (.int ((1 : Int32) + (y5 &&& (3 : Int32)))), .unset, .unset, .unset]) rfl ?_
      exact k
    rcases (hv40 ▸ own_four y5 : v40 = (1 : Int32) ∨ v40 = (2 : Int32) ∨ v40 = (3 : Int32) ∨ v40 = (4 : Int32)) with hs_v40 | hs_v40 | hs_v40 | hs_v40
    · subst hs_v40
      obtain ⟨T7, h7, k7, X7, e7, E7, A7, st7⟩ := newP X0 hx hZ (hw _ (List.mem_of_getElem? (i := 0) rfl)) e0 (g := (mkF m 50 #[.val (.int y1), .val (.int y2), .val (.int y3), .val (.int y4), .val (.int y5), .val (.int y6), .val (.int v5), .val (.int v12), .val (.int v19), .val (.int v26), .val (.int (0 : Int32)), .val (.int (1 : Int32)), .val (.int (1 : Int32)), .unset, .unset] [(.int (5 : Int32))])) rfl (hb hby at_50) rfl (by decide) (cap := 5) (by decide) (by decide) (by decide) (by decide)
      obtain ⟨b7, g7⟩ : ∃ z, z = h0.size := ⟨_, rfl⟩
      rw [← g7] at A7 st7
      have ne_wS_b7 : wS ≠ b7 := Nat.ne_of_lt (Nat.lt_of_lt_of_le R_wS.lt (Nat.le_of_eq g7.symm))
      have ne_wL_b7 : wL ≠ b7 := Nat.ne_of_lt (Nat.lt_of_lt_of_le R_wL.lt (Nat.le_of_eq g7.symm))
      have ne_wH_b7 : wH ≠ b7 := Nat.ne_of_lt (Nat.lt_of_lt_of_le R_wH.lt (Nat.le_of_eq g7.symm))
      have g_b7 : n0 ≤ b7 := Nat.le_trans Z0 (Nat.le_of_eq g7.symm)
      have sz_b7 : h0.size ≤ b7 := Nat.le_trans K0.1 (Nat.le_of_eq g7.symm)
      have K7 : Keep h0 h7 [] := K0.ext E7
      have F8 : Sta Z h7 "com/example/stratafile/stratafile/io/Utf8" "SIZES" "[B" (.ref wS) := S_SIZES.ext E7
      have F9 : Arr Z h7 wS cS .byte := R_wS.ext E7
      have F10 : Sta Z h7 "com/example/stratafile/stratafile/io/Utf8" "SECOND_LOWEST" "[I" (.ref wL) := S_SECOND_LOWEST.ext E7
      have F11 : Arr Z h7 wL cL .int := R_wL.ext E7
      have F12 : Sta Z h7 "com/example/stratafile/stratafile/io/Utf8" "SECOND_HIGHEST" "[I" (.ref wH) := S_SECOND_HIGHEST.ext E7
      have F13 : Arr Z h7 wH cH .int := R_wH.ext E7
      have Z7 : n0 ≤ h7.size := Nat.le_trans Z0 E7.1
      have F14 : Arv Z h7 b7 k7 .byte (5 : Int32) [(.int (0 : Int32)), (.int (0 : Int32)), (.int (0 : Int32)), (.int (0 : Int32)), (.int (0 : Int32))] (.int (0 : Int32)) := (Arv.new A7 (by decide)).pad (pad_rep [] (.int (0 : Int32)) 5)
      obtain ⟨cl15, Ar15, q15, S15, M15, H15, G15⟩ := id F14
      obtain ⟨T16, h16, X16, e16, W16, st16⟩ := stB X7 hx hZ e7 Ar15 (j := (0 : Int32)) (inb_of S15 ⟨by decide, by decide⟩) (g := (mkF m 61 #[.val (.int y1), .val (.int y2), .val (.int y3), .val (.int y4), .val (.int y5), .val (.int y6), .val (.int v5), .val (.int v12), .val (.int v19), .val (.int v26), .val (.int (0 : Int32)), .val (.int (1 : Int32)), .val (.int (1 : Int32)), .val (.ref b7), .unset] [(.int (v5.toInt8.toInt32)), (.int (0 : Int32)), (.ref b7)])) rfl rfl (hb hby at_61)
      have F17 : Arv Z h16 b7 k7 .byte (5 : Int32) [(.int ((v5.toInt8.toInt32).toInt8.toInt32)), (.int (0 : Int32)), (.int (0 : Int32)), (.int (0 : Int32)), (.int (0 : Int32))] (.int (0 : Int32)) := Arv.set Ar15 q15 S15 M15 H15 G15 (fits_nar_byte _) W16 0 rfl (Nat.le_of_ble_eq_true rfl)
      have F18 : Sta Z h16 "com/example/stratafile/stratafile/io/Utf8" "SIZES" "[B" (.ref wS) := F8.wr W16
      have F19 : Sta Z h16 "com/example/stratafile/stratafile/io/Utf8" "SECOND_LOWEST" "[I" (.ref wL) := F10.wr W16
      have F20 : Sta Z h16 "com/example/stratafile/stratafile/io/Utf8" "SECOND_HIGHEST" "[I" (.ref wH) := F12.wr W16
      have N16 := Fr.snoc X16 N0 g_b7
      have Z16 : n0 ≤ h16.size := Nat.le_trans Z7 (Keep.of_wr W16).1
      have K16 : Keep h0 h16 [] := K7.wr W16 (Or.inr sz_b7)
      have F21 : Arr Z h16 wS cS .byte := R_wS.ext (own_ext K16)
      have F22 : Arr Z h16 wL cL .int := R_wL.ext (own_ext K16)
      have F23 : Arr Z h16 wH cH .int := R_wH.ext (own_ext K16)
      obtain ⟨cl24, Ar24, q24, S24, M24, H24, G24⟩ := id F17
      obtain ⟨T25, h25, X25, e25, W25, st25⟩ := stB X16 hx hZ e16 Ar24 (j := (1 : Int32)) (inb_of S24 ⟨by decide, by decide⟩) (g := (mkF m 71 #[.val (.int y1), .val (.int y2), .val (.int y3), .val (.int y4), .val (.int y5), .val (.int y6), .val (.int v5), .val (.int v12), .val (.int v19), .val (.int v26), .val (.int (0 : Int32)), .val (.int (1 : Int32)), .val (.int (1 : Int32)), .val (.ref b7), .unset] [(.int (v12.toInt8.toInt32)), (.int (1 : Int32)), (.ref b7)])) rfl rfl (hb hby at_71)
      have F26 : Arv Z h25 b7 k7 .byte (5 : Int32) [(.int ((v5.toInt8.toInt32).toInt8.toInt32)), (.int ((v12.toInt8.toInt32).toInt8.toInt32)), (.int (0 : Int32)), (.int (0 : Int32)), (.int (0 : Int32))] (.int (0 : Int32)) := Arv.set Ar24 q24 S24 M24 H24 G24 (fits_nar_byte _) W25 1 rfl (Nat.le_of_ble_eq_true rfl)
      have F27 : Sta Z h25 "com/example/stratafile/stratafile/io/Utf8" "SIZES" "[B" (.ref wS) := F18.wr W25
      have F28 : Sta Z h25 "com/example/stratafile/stratafile/io/Utf8" "SECOND_LOWEST" "[I" (.ref wL) := F19.wr W25
      have F29 : Sta Z h25 "com/example/stratafile/stratafile/io/Utf8" "SECOND_HIGHEST" "[I" (.ref wH) := F20.wr W25
      have N25 := Fr.snoc X25 N16 g_b7
      have Z25 : n0 ≤ h25.size := Nat.le_trans Z16 (Keep.of_wr W25).1
      have K25 : Keep h0 h25 [] := K16.wr W25 (Or.inr sz_b7)
      have F30 : Arr Z h25 wS cS .byte := R_wS.ext (own_ext K25)
      have F31 : Arr Z h25 wL cL .int := R_wL.ext (own_ext K25)
      have F32 : Arr Z h25 wH cH .int := R_wH.ext (own_ext K25)
      obtain ⟨cl33, Ar33, q33, S33, M33, H33, G33⟩ := id F26
      obtain ⟨T34, h34, X34, e34, W34, st34⟩ := stB X25 hx hZ e25 Ar33 (j := (2 : Int32)) (inb_of S33 ⟨by decide, by decide⟩) (g := (mkF m 81 #[.val (.int y1), .val (.int y2), .val (.int y3), .val (.int y4), .val (.int y5), .val (.int y6), .val (.int v5), .val (.int v12), .val (.int v19), .val (.int v26), .val (.int (0 : Int32)), .val (.int (1 : Int32)), .val (.int (1 : Int32)), .val (.ref b7), .unset] [(.int (v19.toInt8.toInt32)), (.int (2 : Int32)), (.ref b7)])) rfl rfl (hb hby at_81)
      have F35 : Arv Z h34 b7 k7 .byte (5 : Int32) [(.int ((v5.toInt8.toInt32).toInt8.toInt32)), (.int ((v12.toInt8.toInt32).toInt8.toInt32)), (.int ((v19.toInt8.toInt32).toInt8.toInt32)), (.int (0 : Int32)), (.int (0 : Int32))] (.int (0 : Int32)) := Arv.set Ar33 q33 S33 M33 H33 G33 (fits_nar_byte _) W34 2 rfl (Nat.le_of_ble_eq_true rfl)
      have F36 : Sta Z h34 "com/example/stratafile/stratafile/io/Utf8" "SIZES" "[B" (.ref wS) := F27.wr W34
      have F37 : Sta Z h34 "com/example/stratafile/stratafile/io/Utf8" "SECOND_LOWEST" "[I" (.ref wL) := F28.wr W34
      have F38 : Sta Z h34 "com/example/stratafile/stratafile/io/Utf8" "SECOND_HIGHEST" "[I" (.ref wH) := F29.wr W34
      have N34 := Fr.snoc X34 N25 g_b7
      have Z34 : n0 ≤ h34.size := Nat.le_trans Z25 (Keep.of_wr W34).1
      have K34 : Keep h0 h34 [] := K25.wr W34 (Or.inr sz_b7)
      have F39 : Arr Z h34 wS cS .byte := R_wS.ext (own_ext K34)
      have F40 : Arr Z h34 wL cL .int := R_wL.ext (own_ext K34)
      have F41 : Arr Z h34 wH cH .int := R_wH.ext (own_ext K34)
      obtain ⟨cl42, Ar42, q42, S42, M42, H42, G42⟩ := id F35
      obtain ⟨T43, h43, X43, e43, W43, st43⟩ := stB X34 hx hZ e34 Ar42 (j := (3 : Int32)) (inb_of S42 ⟨by decide, by decide⟩) (g := (mkF m 91 #[.val (.int y1), .val (.int y2), .val (.int y3), .val (.int y4), .val (.int y5), .val (.int y6), .val (.int v5), .val (.int v12), .val (.int v19), .val (.int v26), .val (.int (0 : Int32)), .val (.int (1 : Int32)), .val (.int (1 : Int32)), .val (.ref b7), .unset] [(.int (v26.toInt8.toInt32)), (.int (3 : Int32)), (.ref b7)])) rfl rfl (hb hby at_91)
      have F44 : Arv Z h43 b7 k7 .byte (5 : Int32) [(.int ((v5.toInt8.toInt32).toInt8.toInt32)), (.int ((v12.toInt8.toInt32).toInt8.toInt32)), (.int ((v19.toInt8.toInt32).toInt8.toInt32)), (.int ((v26.toInt8.toInt32).toInt8.toInt32)), (.int (0 : Int32))] (.int (0 : Int32)) := Arv.set Ar42 q42 S42 M42 H42 G42 (fits_nar_byte _) W43 3 rfl (Nat.le_of_ble_eq_true rfl)
      have F45 : Sta Z h43 "com/example/stratafile/stratafile/io/Utf8" "SIZES" "[B" (.ref wS) := F36.wr W43
      have F46 : Sta Z h43 "com/example/stratafile/stratafile/io/Utf8" "SECOND_LOWEST" "[I" (.ref wL) := F37.wr W43
      have F47 : Sta Z h43 "com/example/stratafile/stratafile/io/Utf8" "SECOND_HIGHEST" "[I" (.ref wH) := F38.wr W43
      have N43 := Fr.snoc X43 N34 g_b7
      have Z43 : n0 ≤ h43.size := Nat.le_trans Z34 (Keep.of_wr W43).1
      have K43 : Keep h0 h43 [] := K34.wr W43 (Or.inr sz_b7)
      have F48 : Arr Z h43 wS cS .byte := R_wS.ext (own_ext K43)
      have F49 : Arr Z h43 wL cL .int := R_wL.ext (own_ext K43)
      have F50 : Arr Z h43 wH cH .int := R_wH.ext (own_ext K43)
      obtain ⟨_, _, ⟨T51, L51, k51, n51⟩, -, X51, ⟨Lc51, hQ51, l51, y51, z51⟩, st51⟩ := Jvm.LawKit.callS X43 hx (y := (⟨"com/example/stratafile/stratafile/io/Utf8", "characterSize", "([BII)I"⟩ : MethodName)) hown (mvT hZ (hw _ (List.mem_of_getElem? (i := 1) rfl))) (mvT hZ (hw _ (List.mem_of_getElem? (i := 2) rfl))) (mvT hZ (hw _ (List.mem_of_getElem? (i := 3) rfl))) (mvT hZ (hw _ (List.mem_of_getElem? (i := 4) rfl))) (by decide) (backOf (W := 0) (own_rm1_0_1 l Z a0 hw [] b7 k7 ((v5.toInt8.toInt32).toInt8.toInt32) ((v12.toInt8.toInt32).toInt8.toInt32) ((v19.toInt8.toInt32).toInt8.toInt32) ((v26.toInt8.toInt32).toInt8.toInt32) (0 : Int32) wS cS wL cL wH cH h43 n0 Z43 F44 F45 F48 F46 F49 F47 F50 (szcS) (tacS) (szcL) (tacL) (szcH) (tacH)) hZ (hw _ (List.mem_of_getElem? (i := 4) rfl)) (hw _ (List.mem_of_getElem? (i := 3) rfl)) (by decide) (by decide)) (g := (mkF m 98 #[.val (.int y1), .val (.int y2), .val (.int y3), .val (.int y4), .val (.int y5), .val (.int y6), .val (.int v5), .val (.int v12), .val (.int v19), .val (.int v26), .val (.int (0 : Int32)), .val (.int (1 : Int32)), .val (.int (1 : Int32)), .val (.ref b7), .unset] [(.int (1 : Int32)), (.int (0 : Int32)), (.ref b7)])) rfl (by rw [hml]; rfl) (argsL := [(.ref b7), (.int (0 : Int32)), (.int (1 : Int32))]) (rest := []) (lenOf own_pd1 rfl) rfl (by show 2 * 0 + _ ≤ _; exact Nat.le_of_eq rfl) (hb hby at_98) (fun _ _ => ⟨rfl, e43, (by decide : 1 + 0 ≤ _), (by decide : 5 + 0 ≤ _)⟩)
      dsimp only [Pt.U, Pt.locs, Pt.cells, Pt.slots] at X51 l51 y51 z51 st51 hQ51
      subst l51 y51 z51
      obtain ⟨rfl, N51q, eh51⟩ := hQ51
      have N51 := Fr.app N43 N51q
      obtain ⟨v101, hv101⟩ : ∃ w : Int32, w = (own_cs 1 (((v5.toInt8.toInt32).toInt8.toInt32) &&& (255 : Int32)) (((v12.toInt8.toInt32).toInt8.toInt32) &&& (255 : Int32)) (((v19.toInt8.toInt32).toInt8.toInt32) &&& (255 : Int32)) (((v26.toInt8.toInt32).toInt8.toInt32) &&& (255 : Int32))) := ⟨_, rfl⟩
      have pre52 : ∀ t, Steps p.tables e below (T51.setTop (mkF m 103 #[.val (.int y1), .val (.int y2), .val (.int y3), .val (.int y4), .val (.int y5), .val (.int y6), .val (.int v5), .val (.int v12), .val (.int v19), .val (.int v26), .val (.int (0 : Int32)), .val (.int (1 : Int32)), .val (.int (1 : Int32)), .val (.ref b7), .val (.int v101)] [])) t → Steps p.tables e below (s₁.setTop (entryFrame m #[(.int y1), (.int y2), (.int y3), (.int y4), (.int y5), (.int y6)] maxLocals)) t := by
        intro t k
        rw [hv101] at k
        refine pre6 _ ?_
        show Steps p.tables e below (s₁.setTop (mkF m 42 #[.val (.int y1), .val (.int y2), .val (.int y3), .val (.int y4), .val (.int y5), .val (.int y6), .val (.int v5), .val (.int v12), .val (.int v19), .val (.int v26), .val (.int (0 : Int32)), .val (.int (1 : Int32)), .unset, .unset, .unset] [])) _
        refine XS.iload X0.here hx rfl (hb hby at_42) rfl ?_
        show Steps p.tables e below (s₁.setTop (mkF m 44 #[.val (.int y1), .val (.int y2), .val (.int y3), .val (.int y4), .val (.int y5), .val (.int y6), .val (.int v5), .val (.int v12), .val (.int v19), .val (.int v26), .val (.int (0 : Int32)), .val (.int (1 : Int32)), .unset, .unset, .unset] [(.int (0 : Int32))])) _
        refine XS.iload X0.here hx rfl (hb hby at_44) rfl ?_
        show Steps p.tables e below (s₁.setTop (mkF m 46 #[.val (.int y1), .val (.int y2), .val (.int y3), .val (.int y4), .val (.int y5), .val (.int y6), .val (.int v5), .val (.int v12), .val (.int v19), .val (.int v26), .val (.int (0 : Int32)), .val (.int (1 : Int32)), .unset, .unset, .unset] [(.int (1 : Int32)), (.int (0 : Int32))])) _
        refine XS.iadd X0.here hx rfl (hb hby at_46) rfl ?_
        show Steps p.tables e below (s₁.setTop (mkF m 47 #[.val (.int y1), .val (.int y2), .val (.int y3), .val (.int y4), .val (.int y5), .val (.int y6), .val (.int v5), .val (.int v12), .val (.int v19), .val (.int v26), .val (.int (0 : Int32)), .val (.int (1 : Int32)), .unset, .unset, .unset] [(.int (1 : Int32))])) _
        refine XS.istore X0.here hx rfl (hb hby at_47) rfl (l' := #[.val (.int y1), .val (.int y2), .val (.int y3), .val (.int y4), .val (.int y5), .val (.int y6), .val (.int v5), .val (.int v12), .val (.int v19), .val (.int v26), .val (.int (0 : Int32)), .val (.int (1 : Int32)), .val (.int (1 : Int32)), .unset, .unset]) rfl ?_
        show Steps p.tables e below (s₁.setTop (mkF m 49 #[.val (.int y1), .val (.int y2), .val (.int y3), .val (.int y4), .val (.int y5), .val (.int y6), .val (.int v5), .val (.int v12), .val (.int v19), .val (.int v26), .val (.int (0 : Int32)), .val (.int (1 : Int32)), .val (.int (1 : Int32)), .unset, .unset] [])) _
        refine XS.iconst X0.here hx rfl (hb hby at_49) ?_
        show Steps p.tables e below (s₁.setTop (mkF m 50 #[.val (.int y1), .val (.int y2), .val (.int y3), .val (.int y4), .val (.int y5), .val (.int y6), .val (.int v5), .val (.int v12), .val (.int v19), .val (.int v26), .val (.int (0 : Int32)), .val (.int (1 : Int32)), .val (.int (1 : Int32)), .unset, .unset] [(.int (5 : Int32))])) _
        refine st7 _ ?_
        show Steps p.tables e below (T7.setTop (mkF m 52 #[.val (.int y1), .val (.int y2), .val (.int y3), .val (.int y4), .val (.int y5), .val (.int y6), .val (.int v5), .val (.int v12), .val (.int v19), .val (.int v26), .val (.int (0 : Int32)), .val (.int (1 : Int32)), .val (.int (1 : Int32)), .unset, .unset] [(.ref b7)])) _
        refine XS.astore X7.here hx rfl (hb hby at_52) rfl rfl (l' := #[.val (.int y1), .val (.int y2), .val (.int y3), .val (.int y4), .val (.int y5), .val (.int y6), .val (.int v5), .val (.int v12), .val (.int v19), .val (.int v26), .val (.int (0 : Int32)), .val (.int (1 : Int32)), .val (.int (1 : Int32)), .val (.ref b7), .unset]) rfl ?_
        show Steps p.tables e below (T7.setTop (mkF m 54 #[.val (.int y1), .val (.int y2), .val (.int y3), .val (.int y4), .val (.int y5), .val (.int y6), .val (.int v5), .val (.int v12), .val (.int v19), .val (.int v26), .val (.int (0 : Int32)), .val (.int (1 : Int32)), .val (.int (1 : Int32)), .val (.ref b7), .unset] [])) _
        refine XS.aload X7.here hx rfl (hb hby at_54) rfl rfl ?_
        show Steps p.tables e below (T7.setTop (mkF m 56 #[.val (.int y1), .val (.int y2), .val (.int y3), .val (.int y4), .val (.int y5), .val (.int y6), .val (.int v5), .val (.int v12), .val (.int v19), .val (.int v26), .val (.int (0 : Int32)), .val (.int (1 : Int32)), .val (.int (1 : Int32)), .val (.ref b7), .unset] [(.ref b7)])) _
        refine XS.iload X7.here hx rfl (hb hby at_56) rfl ?_
        show Steps p.tables e below (T7.setTop (mkF m 58 #[.val (.int y1), .val (.int y2), .val (.int y3), .val (.int y4), .val (.int y5), .val (.int y6), .val (.int v5), .val (.int v12), .val (.int v19), .val (.int v26), .val (.int (0 : Int32)), .val (.int (1 : Int32)), .val (.int (1 : Int32)), .val (.ref b7), .unset] [(.int (0 : Int32)), (.ref b7)])) _
        refine XS.iload X7.here hx rfl (hb hby at_58) rfl ?_
        show Steps p.tables e below (T7.setTop (mkF m 60 #[.val (.int y1), .val (.int y2), .val (.int y3), .val (.int y4), .val (.int y5), .val (.int y6), .val (.int v5), .val (.int v12), .val (.int v19), .val (.int v26), .val (.int (0 : Int32)), .val (.int (1 : Int32)), .val (.int (1 : Int32)), .val (.ref b7), .unset] [(.int v5), (.int (0 : Int32)), (.ref b7)])) _
        refine XS.i2b X7.here hx rfl (hb hby at_60) rfl ?_
        show Steps p.tables e below (T7.setTop (mkF m 61 #[.val (.int y1), .val (.int y2), .val (.int y3), .val (.int y4), .val (.int y5), .val (.int y6), .val (.int v5), .val (.int v12), .val (.int v19), .val (.int v26), .val (.int (0 : Int32)), .val (.int (1 : Int32)), .val (.int (1 : Int32)), .val (.ref b7), .unset] [(.int (v5.toInt8.toInt32)), (.int (0 : Int32)), (.ref b7)])) _
        refine st16 _ ?_
        show Steps p.tables e below (T16.setTop (mkF m 62 #[.val (.int y1), .val (.int y2), .val (.int y3), .val (.int y4), .val (.int y5), .val (.int y6), .val (.int v5), .val (.int v12), .val (.int v19), .val (.int v26), .val (.int (0 : Int32)), .val (.int (1 : Int32)), .val (.int (1 : Int32)), .val (.ref b7), .unset] [])) _
        refine XS.aload X16.here hx rfl (hb hby at_62) rfl rfl ?_
        show Steps p.tables e below (T16.setTop (mkF m 64 #[.val (.int y1), .val (.int y2), .val (.int y3), .val (.int y4), .val (.int y5), .val (.int y6), .val (.int v5), .val (.int v12), .val (.int v19), .val (.int v26), .val (.int (0 : Int32)), .val (.int (1 : Int32)), .val (.int (1 : Int32)), .val (.ref b7), .unset] [(.ref b7)])) _
        refine XS.iload X16.here hx rfl (hb hby at_64) rfl ?_
        show Steps p.tables e below (T16.setTop (mkF m 66 #[.val (.int y1), .val (.int y2), .val (.int y3), .val (.int y4), .val (.int y5), .val (.int y6), .val (.int v5), .val (.int v12), .val (.int v19), .val (.int v26), .val (.int (0 : Int32)), .val (.int (1 : Int32)), .val (.int (1 : Int32)), .val (.ref b7), .unset] [(.int (0 : Int32)), (.ref b7)])) _
        refine XS.iconst X16.here hx rfl (hb hby at_66) ?_
        show Steps p.tables e below (T16.setTop (mkF m 67 #[.val (.int y1), .val (.int y2), .val (.int y3), .val (.int y4), .val (.int y5), .val (.int y6), .val (.int v5), .val (.int v12), .val (.int v19), .val (.int v26), .val (.int (0 : Int32)), .val (.int (1 : Int32)), .val (.int (1 : Int32)), .val (.ref b7), .unset] [(.int (1 : Int32)), (.int (0 : Int32)), (.ref b7)])) _
        refine XS.iadd X16.here hx rfl (hb hby at_67) rfl ?_
        show Steps p.tables e below (T16.setTop (mkF m 68 #[.val (.int y1), .val (.int y2), .val (.int y3), .val (.int y4), .val (.int y5), .val (.int y6), .val (.int v5), .val (.int v12), .val (.int v19), .val (.int v26), .val (.int (0 : Int32)), .val (.int (1 : Int32)), .val (.int (1 : Int32)), .val (.ref b7), .unset] [(.int (1 : Int32)), (.ref b7)])) _
        refine XS.iload X16.here hx rfl (hb hby at_68) rfl ?_
        show Steps p.tables e below (T16.setTop (mkF m 70 #[.val (.int y1), .val (.int y2), .val (.int y3), .val (.int y4), .val (.int y5), .val (.int y6), .val (.int v5), .val (.int v12), .val (.int v19), .val (.int v26), .val (.int (0 : Int32)), .val (.int (1 : Int32)), .val (.int (1 : Int32)), .val (.ref b7), .unset] [(.int v12), (.int (1 : Int32)), (.ref b7)])) _
        refine XS.i2b X16.here hx rfl (hb hby at_70) rfl ?_
        show Steps p.tables e below (T16.setTop (mkF m 71 #[.val (.int y1), .val (.int y2), .val (.int y3), .val (.int y4), .val (.int y5), .val (.int y6), .val (.int v5), .val (.int v12), .val (.int v19), .val (.int v26), .val (.int (0 : Int32)), .val (.int (1 : Int32)), .val (.int (1 : Int32)), .val (.ref b7), .unset] [(.int (v12.toInt8.toInt32)), (.int (1 : Int32)), (.ref b7)])) _
        refine st25 _ ?_
        show Steps p.tables e below (T25.setTop (mkF m 72 #[.val (.int y1), .val (.int y2), .val (.int y3), .val (.int y4), .val (.int y5), .val (.int y6), .val (.int v5), .val (.int v12), .val (.int v19), .val (.int v26), .val (.int (0 : Int32)), .val (.int (1 : Int32)), .val (.int (1 : Int32)), .val (.ref b7), .unset] [])) _
        refine XS.aload X25.here hx rfl (hb hby at_72) rfl rfl ?_
        show Steps p.tables e below (T25.setTop (mkF m 74 #[.val (.int y1), .val (.int y2), .val (.int y3), .val (.int y4), .val (.int y5), .val (.int y6), .val (.int v5), .val (.int v12), .val (.int v19), .val (.int v26), .val (.int (0 : Int32)), .val (.int (1 : Int32)), .val (.int (1 : Int32)), .val (.ref b7), .unset] [(.ref b7)])) _
        refine XS.iload X25.here hx rfl (hb hby at_74) rfl ?_
        show Steps p.tables e below (T25.setTop (mkF m 76 #[.val (.int y1), .val (.int y2), .val (.int y3), .val (.int y4), .val (.int y5), .val (.int y6), .val (.int v5), .val (.int v12), .val (.int v19), .val (.int v26), .val (.int (0 : Int32)), .val (.int (1 : Int32)), .val (.int (1 : Int32)), .val (.ref b7), .unset] [(.int (0 : Int32)), (.ref b7)])) _
        refine XS.iconst X25.here hx rfl (hb hby at_76) ?_
        show Steps p.tables e below (T25.setTop (mkF m 77 #[.val (.int y1), .val (.int y2), .val (.int y3), .val (.int y4), .val (.int y5), .val (.int y6), .val (.int v5), .val (.int v12), .val (.int v19), .val (.int v26), .val (.int (0 : Int32)), .val (.int (1 : Int32)), .val (.int (1 : Int32)), .val (.ref b7), .unset] [(.int (2 : Int32)), (.int (0 : Int32)), (.ref b7)])) _
        refine XS.iadd X25.here hx rfl (hb hby at_77) rfl ?_
        show Steps p.tables e below (T25.setTop (mkF m 78 #[.val (.int y1), .val (.int y2), .val (.int y3), .val (.int y4), .val (.int y5), .val (.int y6), .val (.int v5), .val (.int v12), .val (.int v19), .val (.int v26), .val (.int (0 : Int32)), .val (.int (1 : Int32)), .val (.int (1 : Int32)), .val (.ref b7), .unset] [(.int (2 : Int32)), (.ref b7)])) _
        refine XS.iload X25.here hx rfl (hb hby at_78) rfl ?_
        show Steps p.tables e below (T25.setTop (mkF m 80 #[.val (.int y1), .val (.int y2), .val (.int y3), .val (.int y4), .val (.int y5), .val (.int y6), .val (.int v5), .val (.int v12), .val (.int v19), .val (.int v26), .val (.int (0 : Int32)), .val (.int (1 : Int32)), .val (.int (1 : Int32)), .val (.ref b7), .unset] [(.int v19), (.int (2 : Int32)), (.ref b7)])) _
        refine XS.i2b X25.here hx rfl (hb hby at_80) rfl ?_
        show Steps p.tables e below (T25.setTop (mkF m 81 #[.val (.int y1), .val (.int y2), .val (.int y3), .val (.int y4), .val (.int y5), .val (.int y6), .val (.int v5), .val (.int v12), .val (.int v19), .val (.int v26), .val (.int (0 : Int32)), .val (.int (1 : Int32)), .val (.int (1 : Int32)), .val (.ref b7), .unset] [(.int (v19.toInt8.toInt32)), (.int (2 : Int32)), (.ref b7)])) _
        refine st34 _ ?_
        show Steps p.tables e below (T34.setTop (mkF m 82 #[.val (.int y1), .val (.int y2), .val (.int y3), .val (.int y4), .val (.int y5), .val (.int y6), .val (.int v5), .val (.int v12), .val (.int v19), .val (.int v26), .val (.int (0 : Int32)), .val (.int (1 : Int32)), .val (.int (1 : Int32)), .val (.ref b7), .unset] [])) _
        refine XS.aload X34.here hx rfl (hb hby at_82) rfl rfl ?_
        show Steps p.tables e below (T34.setTop (mkF m 84 #[.val (.int y1), .val (.int y2), .val (.int y3), .val (.int y4), .val (.int y5), .val (.int y6), .val (.int v5), .val (.int v12), .val (.int v19), .val (.int v26), .val (.int (0 : Int32)), .val (.int (1 : Int32)), .val (.int (1 : Int32)), .val (.ref b7), .unset] [(.ref b7)])) _
        refine XS.iload X34.here hx rfl (hb hby at_84) rfl ?_
        show Steps p.tables e below (T34.setTop (mkF m 86 #[.val (.int y1), .val (.int y2), .val (.int y3), .val (.int y4), .val (.int y5), .val (.int y6), .val (.int v5), .val (.int v12), .val (.int v19), .val (.int v26), .val (.int (0 : Int32)), .val (.int (1 : Int32)), .val (.int (1 : Int32)), .val (.ref b7), .unset] [(.int (0 : Int32)), (.ref b7)])) _
        refine XS.iconst X34.here hx rfl (hb hby at_86) ?_
        show Steps p.tables e below (T34.setTop (mkF m 87 #[.val (.int y1), .val (.int y2), .val (.int y3), .val (.int y4), .val (.int y5), .val (.int y6), .val (.int v5), .val (.int v12), .val (.int v19), .val (.int v26), .val (.int (0 : Int32)), .val (.int (1 : Int32)), .val (.int (1 : Int32)), .val (.ref b7), .unset] [(.int (3 : Int32)), (.int (0 : Int32)), (.ref b7)])) _
        refine XS.iadd X34.here hx rfl (hb hby at_87) rfl ?_
        show Steps p.tables e below (T34.setTop (mkF m 88 #[.val (.int y1), .val (.int y2), .val (.int y3), .val (.int y4), .val (.int y5), .val (.int y6), .val (.int v5), .val (.int v12), .val (.int v19), .val (.int v26), .val (.int (0 : Int32)), .val (.int (1 : Int32)), .val (.int (1 : Int32)), .val (.ref b7), .unset] [(.int (3 : Int32)), (.ref b7)])) _
        refine XS.iload X34.here hx rfl (hb hby at_88) rfl ?_
        show Steps p.tables e below (T34.setTop (mkF m 90 #[.val (.int y1), .val (.int y2), .val (.int y3), .val (.int y4), .val (.int y5), .val (.int y6), .val (.int v5), .val (.int v12), .val (.int v19), .val (.int v26), .val (.int (0 : Int32)), .val (.int (1 : Int32)), .val (.int (1 : Int32)), .val (.ref b7), .unset] [(.int v26), (.int (3 : Int32)), (.ref b7)])) _
        refine XS.i2b X34.here hx rfl (hb hby at_90) rfl ?_
        show Steps p.tables e below (T34.setTop (mkF m 91 #[.val (.int y1), .val (.int y2), .val (.int y3), .val (.int y4), .val (.int y5), .val (.int y6), .val (.int v5), .val (.int v12), .val (.int v19), .val (.int v26), .val (.int (0 : Int32)), .val (.int (1 : Int32)), .val (.int (1 : Int32)), .val (.ref b7), .unset] [(.int (v26.toInt8.toInt32)), (.int (3 : Int32)), (.ref b7)])) _
        refine st43 _ ?_
        show Steps p.tables e below (T43.setTop (mkF m 92 #[.val (.int y1), .val (.int y2), .val (.int y3), .val (.int y4), .val (.int y5), .val (.int y6), .val (.int v5), .val (.int v12), .val (.int v19), .val (.int v26), .val (.int (0 : Int32)), .val (.int (1 : Int32)), .val (.int (1 : Int32)), .val (.ref b7), .unset] [])) _
        refine XS.aload X43.here hx rfl (hb hby at_92) rfl rfl ?_
        show Steps p.tables e below (T43.setTop (mkF m 94 #[.val (.int y1), .val (.int y2), .val (.int y3), .val (.int y4), .val (.int y5), .val (.int y6), .val (.int v5), .val (.int v12), .val (.int v19), .val (.int v26), .val (.int (0 : Int32)), .val (.int (1 : Int32)), .val (.int (1 : Int32)), .val (.ref b7), .unset] [(.ref b7)])) _
        refine XS.iload X43.here hx rfl (hb hby at_94) rfl ?_
        show Steps p.tables e below (T43.setTop (mkF m 96 #[.val (.int y1), .val (.int y2), .val (.int y3), .val (.int y4), .val (.int y5), .val (.int y6), .val (.int v5), .val (.int v12), .val (.int v19), .val (.int v26), .val (.int (0 : Int32)), .val (.int (1 : Int32)), .val (.int (1 : Int32)), .val (.ref b7), .unset] [(.int (0 : Int32)), (.ref b7)])) _
        refine XS.iload X43.here hx rfl (hb hby at_96) rfl ?_
        show Steps p.tables e below (T43.setTop (mkF m 98 #[.val (.int y1), .val (.int y2), .val (.int y3), .val (.int y4), .val (.int y5), .val (.int y6), .val (.int v5), .val (.int v12), .val (.int v19), .val (.int v26), .val (.int (0 : Int32)), .val (.int (1 : Int32)), .val (.int (1 : Int32)), .val (.ref b7), .unset] [(.int (1 : Int32)), (.int (0 : Int32)), (.ref b7)])) _
        refine st51 _ ?_
        show Steps p.tables e below (T51.setTop (mkF m 101 #[.val (.int y1), .val (.int y2), .val (.int y3), .val (.int y4), .val (.int y5), .val (.int y6), .val (.int v5), .val (.int v12), .val (.int v19), .val (.int v26), .val (.int (0 : Int32)), .val (.int (1 : Int32)), .val (.int (1 : Int32)), .val (.ref b7), .unset] [(.int (own_cs 1 (((v5.toInt8.toInt32).toInt8.toInt32) &&& (255 : Int32)) (((v12.toInt8.toInt32).toInt8.toInt32) &&& (255 : Int32)) (((v19.toInt8.toInt32).toInt8.toInt32) &&& (255 : Int32)) (((v26.toInt8.toInt32).toInt8.toInt32) &&& (255 : Int32))))])) _
        refine XS.istore X51.here hx rfl (hb hby at_101) rfl (l' := #[.val (.int y1), .val (.int y2), .val (.int y3), .val (.int y4), .val (.int y5), .val (.int y6), .val (.int v5), .val (.int v12), .val (.int v19), .val (.int v26), .val (.int (0 : Int32)), .val (.int (1 : Int32)), .val (.int (1 : Int32)), .val (.ref b7), .val (.int (own_cs 1 (((v5.toInt8.toInt32).toInt8.toInt32) &&& (255 : Int32)) (((v12.toInt8.toInt32).toInt8.toInt32) &&& (255 : Int32)) (((v19.toInt8.toInt32).toInt8.toInt32) &&& (255 : Int32)) (((v26.toInt8.toInt32).toInt8.toInt32) &&& (255 : Int32))))]) rfl ?_
        exact k
      obtain ⟨_, _, ⟨T53, L53, k53, n53⟩, -, X53, ⟨Lc53, hQ53, l53, y53, z53⟩, st53⟩ := Jvm.LawKit.callS X51 hx (y := (⟨"com/example/stratafile/stratafile/io/Utf8CharacterSizePinLaw", "expected", "(IIIII)I"⟩ : MethodName)) hown (mvT hZ (hw _ (List.mem_of_getElem? (i := 11) rfl))) (mvT hZ (hw _ (List.mem_of_getElem? (i := 12) rfl))) (mvT hZ (hw _ (List.mem_of_getElem? (i := 13) rfl))) (mvT hZ (hw _ (List.mem_of_getElem? (i := 14) rfl))) (by decide) (backOf (W := 1) (own_rm2 l Z a0 hw [] v5 v12 v19 v26 (1 : Int32) h43 n0 Z43 ) hZ (hw _ (List.mem_of_getElem? (i := 14) rfl)) (hw _ (List.mem_of_getElem? (i := 13) rfl)) (by decide) (by decide)) (g := (mkF m 115 #[.val (.int y1), .val (.int y2), .val (.int y3), .val (.int y4), .val (.int y5), .val (.int y6), .val (.int v5), .val (.int v12), .val (.int v19), .val (.int v26), .val (.int (0 : Int32)), .val (.int (1 : Int32)), .val (.int (1 : Int32)), .val (.ref b7), .val (.int v101)] [(.int (1 : Int32)), (.int v26), (.int v19), (.int v12), (.int v5), (.int v101)])) rfl (by rw [hml]; rfl) (argsL := [(.int v5), (.int v12), (.int v19), (.int v26), (.int (1 : Int32))]) (rest := [(.int v101)]) (lenOf own_pd2 rfl) rfl (by show 2 * 0 + _ ≤ _; exact Nat.le_of_eq rfl) (hb hby at_115) (fun _ _ => ⟨rfl, eh51, (by decide : 1 + 0 ≤ _), (by decide : 5 + 0 ≤ _)⟩)
      dsimp only [Pt.U, Pt.locs, Pt.cells, Pt.slots] at X53 l53 y53 z53 st53 hQ53
      subst l53 y53 z53
      obtain ⟨rfl, N53q, eh53⟩ := hQ53
      have N53 := Fr.app N51 N53q
      have hd54 : v101 = (own_ex v5 v12 v19 v26 (1 : Int32)) := (by rw [hv101, hv5, hv12, hv19, hv26, own_bb, own_bb, own_bb, own_bb]; exact own_fin 1 _ _ _ _ _ (by decide))
      obtain ⟨fs, hr, hrun, hended, hW, hsame⟩ := X53.leave (v := some (.int (1 : Int32))) (fun h => by rw [Bd.returns] at h; cases h)
      refine ⟨_, _, pre52 _ ?_, hrun, hended, _, _, rfl, ?_, ⟨_, rfl⟩, hW, hsame.mono (by decide) (by decide)⟩
      · show Steps p.tables e below (T51.setTop (mkF m 103 #[.val (.int y1), .val (.int y2), .val (.int y3), .val (.int y4), .val (.int y5), .val (.int y6), .val (.int v5), .val (.int v12), .val (.int v19), .val (.int v26), .val (.int (0 : Int32)), .val (.int (1 : Int32)), .val (.int (1 : Int32)), .val (.ref b7), .val (.int v101)] [])) _
        refine XS.iload X51.here hx rfl (hb hby at_103) rfl ?_
        show Steps p.tables e below (T51.setTop (mkF m 105 #[.val (.int y1), .val (.int y2), .val (.int y3), .val (.int y4), .val (.int y5), .val (.int y6), .val (.int v5), .val (.int v12), .val (.int v19), .val (.int v26), .val (.int (0 : Int32)), .val (.int (1 : Int32)), .val (.int (1 : Int32)), .val (.ref b7), .val (.int v101)] [(.int v101)])) _
        refine XS.iload X51.here hx rfl (hb hby at_105) rfl ?_
        show Steps p.tables e below (T51.setTop (mkF m 107 #[.val (.int y1), .val (.int y2), .val (.int y3), .val (.int y4), .val (.int y5), .val (.int y6), .val (.int v5), .val (.int v12), .val (.int v19), .val (.int v26), .val (.int (0 : Int32)), .val (.int (1 : Int32)), .val (.int (1 : Int32)), .val (.ref b7), .val (.int v101)] [(.int v5), (.int v101)])) _
        refine XS.iload X51.here hx rfl (hb hby at_107) rfl ?_
        show Steps p.tables e below (T51.setTop (mkF m 109 #[.val (.int y1), .val (.int y2), .val (.int y3), .val (.int y4), .val (.int y5), .val (.int y6), .val (.int v5), .val (.int v12), .val (.int v19), .val (.int v26), .val (.int (0 : Int32)), .val (.int (1 : Int32)), .val (.int (1 : Int32)), .val (.ref b7), .val (.int v101)] [(.int v12), (.int v5), (.int v101)])) _
        refine XS.iload X51.here hx rfl (hb hby at_109) rfl ?_
        show Steps p.tables e below (T51.setTop (mkF m 111 #[.val (.int y1), .val (.int y2), .val (.int y3), .val (.int y4), .val (.int y5), .val (.int y6), .val (.int v5), .val (.int v12), .val (.int v19), .val (.int v26), .val (.int (0 : Int32)), .val (.int (1 : Int32)), .val (.int (1 : Int32)), .val (.ref b7), .val (.int v101)] [(.int v19), (.int v12), (.int v5), (.int v101)])) _
        refine XS.iload X51.here hx rfl (hb hby at_111) rfl ?_
        show Steps p.tables e below (T51.setTop (mkF m 113 #[.val (.int y1), .val (.int y2), .val (.int y3), .val (.int y4), .val (.int y5), .val (.int y6), .val (.int v5), .val (.int v12), .val (.int v19), .val (.int v26), .val (.int (0 : Int32)), .val (.int (1 : Int32)), .val (.int (1 : Int32)), .val (.ref b7), .val (.int v101)] [(.int v26), (.int v19), (.int v12), (.int v5), (.int v101)])) _
        refine XS.iload X51.here hx rfl (hb hby at_113) rfl ?_
        show Steps p.tables e below (T51.setTop (mkF m 115 #[.val (.int y1), .val (.int y2), .val (.int y3), .val (.int y4), .val (.int y5), .val (.int y6), .val (.int v5), .val (.int v12), .val (.int v19), .val (.int v26), .val (.int (0 : Int32)), .val (.int (1 : Int32)), .val (.int (1 : Int32)), .val (.ref b7), .val (.int v101)] [(.int (1 : Int32)), (.int v26), (.int v19), (.int v12), (.int v5), (.int v101)])) _
        refine st53 _ ?_
        show Steps p.tables e below (T53.setTop (mkF m 118 #[.val (.int y1), .val (.int y2), .val (.int y3), .val (.int y4), .val (.int y5), .val (.int y6), .val (.int v5), .val (.int v12), .val (.int v19), .val (.int v26), .val (.int (0 : Int32)), .val (.int (1 : Int32)), .val (.int (1 : Int32)), .val (.ref b7), .val (.int v101)] [(.int (own_ex v5 v12 v19 v26 (1 : Int32))), (.int v101)])) _
        refine XS.icmpNo X53.here hx rfl (hb hby at_118) rfl (teq hd54).2 ?_
        show Steps p.tables e below (T53.setTop (mkF m 121 #[.val (.int y1), .val (.int y2), .val (.int y3), .val (.int y4), .val (.int y5), .val (.int y6), .val (.int v5), .val (.int v12), .val (.int v19), .val (.int v26), .val (.int (0 : Int32)), .val (.int (1 : Int32)), .val (.int (1 : Int32)), .val (.ref b7), .val (.int v101)] [])) _
        refine XS.iconst X53.here hx rfl (hb hby at_121) ?_
        show Steps p.tables e below (T53.setTop (mkF m 122 #[.val (.int y1), .val (.int y2), .val (.int y3), .val (.int y4), .val (.int y5), .val (.int y6), .val (.int v5), .val (.int v12), .val (.int v19), .val (.int v26), .val (.int (0 : Int32)), .val (.int (1 : Int32)), .val (.int (1 : Int32)), .val (.ref b7), .val (.int v101)] [(.int (1 : Int32))])) _
        refine XS.goto X53.here hx rfl (pc0 := 122) (pc' := 126) rfl (hb hby at_122) (by decide) (by decide) ?_
        show Steps p.tables e below (T53.setTop (mkF m 126 #[.val (.int y1), .val (.int y2), .val (.int y3), .val (.int y4), .val (.int y5), .val (.int y6), .val (.int v5), .val (.int v12), .val (.int v19), .val (.int v26), .val (.int (0 : Int32)), .val (.int (1 : Int32)), .val (.int (1 : Int32)), .val (.ref b7), .val (.int v101)] [(.int (1 : Int32))])) _
        exact retN X53 hx (t := .boolean) Bd.returns (by simp) (hb hby at_126) hr
      · show own_Q0 Z y1 y2 y3 y4 y5 y6 wS cS wL cL wH cH h0 n0 _ T53.heap _
        rw [eh53]
        exact ⟨rfl, N53⟩
    · subst hs_v40
      obtain ⟨T55, h55, k55, X55, e55, E55, A55, st55⟩ := newP X0 hx hZ (hw _ (List.mem_of_getElem? (i := 0) rfl)) e0 (g := (mkF m 50 #[.val (.int y1), .val (.int y2), .val (.int y3), .val (.int y4), .val (.int y5), .val (.int y6), .val (.int v5), .val (.int v12), .val (.int v19), .val (.int v26), .val (.int (0 : Int32)), .val (.int (2 : Int32)), .val (.int (2 : Int32)), .unset, .unset] [(.int (5 : Int32))])) rfl (hb hby at_50) rfl (by decide) (cap := 5) (by decide) (by decide) (by decide) (by decide)
      obtain ⟨b55, g55⟩ : ∃ z, z = h0.size := ⟨_, rfl⟩
      rw [← g55] at A55 st55
      have ne_wS_b55 : wS ≠ b55 := Nat.ne_of_lt (Nat.lt_of_lt_of_le R_wS.lt (Nat.le_of_eq g55.symm))
      have ne_wL_b55 : wL ≠ b55 := Nat.ne_of_lt (Nat.lt_of_lt_of_le R_wL.lt (Nat.le_of_eq g55.symm))
      have ne_wH_b55 : wH ≠ b55 := Nat.ne_of_lt (Nat.lt_of_lt_of_le R_wH.lt (Nat.le_of_eq g55.symm))
      have g_b55 : n0 ≤ b55 := Nat.le_trans Z0 (Nat.le_of_eq g55.symm)
      have sz_b55 : h0.size ≤ b55 := Nat.le_trans K0.1 (Nat.le_of_eq g55.symm)
      have K55 : Keep h0 h55 [] := K0.ext E55
      have F56 : Sta Z h55 "com/example/stratafile/stratafile/io/Utf8" "SIZES" "[B" (.ref wS) := S_SIZES.ext E55
      have F57 : Arr Z h55 wS cS .byte := R_wS.ext E55
      have F58 : Sta Z h55 "com/example/stratafile/stratafile/io/Utf8" "SECOND_LOWEST" "[I" (.ref wL) := S_SECOND_LOWEST.ext E55
      have F59 : Arr Z h55 wL cL .int := R_wL.ext E55
      have F60 : Sta Z h55 "com/example/stratafile/stratafile/io/Utf8" "SECOND_HIGHEST" "[I" (.ref wH) := S_SECOND_HIGHEST.ext E55
      have F61 : Arr Z h55 wH cH .int := R_wH.ext E55
      have Z55 : n0 ≤ h55.size := Nat.le_trans Z0 E55.1
      have F62 : Arv Z h55 b55 k55 .byte (5 : Int32) [(.int (0 : Int32)), (.int (0 : Int32)), (.int (0 : Int32)), (.int (0 : Int32)), (.int (0 : Int32))] (.int (0 : Int32)) := (Arv.new A55 (by decide)).pad (pad_rep [] (.int (0 : Int32)) 5)
      obtain ⟨cl63, Ar63, q63, S63, M63, H63, G63⟩ := id F62
      obtain ⟨T64, h64, X64, e64, W64, st64⟩ := stB X55 hx hZ e55 Ar63 (j := (0 : Int32)) (inb_of S63 ⟨by decide, by decide⟩) (g := (mkF m 61 #[.val (.int y1), .val (.int y2), .val (.int y3), .val (.int y4), .val (.int y5), .val (.int y6), .val (.int v5), .val (.int v12), .val (.int v19), .val (.int v26), .val (.int (0 : Int32)), .val (.int (2 : Int32)), .val (.int (2 : Int32)), .val (.ref b55), .unset] [(.int (v5.toInt8.toInt32)), (.int (0 : Int32)), (.ref b55)])) rfl rfl (hb hby at_61)
      have F65 : Arv Z h64 b55 k55 .byte (5 : Int32) [(.int ((v5.toInt8.toInt32).toInt8.toInt32)), (.int (0 : Int32)), (.int (0 : Int32)), (.int (0 : Int32)), (.int (0 : Int32))] (.int (0 : Int32)) := Arv.set Ar63 q63 S63 M63 H63 G63 (fits_nar_byte _) W64 0 rfl (Nat.le_of_ble_eq_true rfl)
      have F66 : Sta Z h64 "com/example/stratafile/stratafile/io/Utf8" "SIZES" "[B" (.ref wS) := F56.wr W64
      have F67 : Sta Z h64 "com/example/stratafile/stratafile/io/Utf8" "SECOND_LOWEST" "[I" (.ref wL) := F58.wr W64
      have F68 : Sta Z h64 "com/example/stratafile/stratafile/io/Utf8" "SECOND_HIGHEST" "[I" (.ref wH) := F60.wr W64
      have N64 := Fr.snoc X64 N0 g_b55
      have Z64 : n0 ≤ h64.size := Nat.le_trans Z55 (Keep.of_wr W64).1
      have K64 : Keep h0 h64 [] := K55.wr W64 (Or.inr sz_b55)
      have F69 : Arr Z h64 wS cS .byte := R_wS.ext (own_ext K64)
      have F70 : Arr Z h64 wL cL .int := R_wL.ext (own_ext K64)
      have F71 : Arr Z h64 wH cH .int := R_wH.ext (own_ext K64)
      obtain ⟨cl72, Ar72, q72, S72, M72, H72, G72⟩ := id F65
      obtain ⟨T73, h73, X73, e73, W73, st73⟩ := stB X64 hx hZ e64 Ar72 (j := (1 : Int32)) (inb_of S72 ⟨by decide, by decide⟩) (g := (mkF m 71 #[.val (.int y1), .val (.int y2), .val (.int y3), .val (.int y4), .val (.int y5), .val (.int y6), .val (.int v5), .val (.int v12), .val (.int v19), .val (.int v26), .val (.int (0 : Int32)), .val (.int (2 : Int32)), .val (.int (2 : Int32)), .val (.ref b55), .unset] [(.int (v12.toInt8.toInt32)), (.int (1 : Int32)), (.ref b55)])) rfl rfl (hb hby at_71)
      have F74 : Arv Z h73 b55 k55 .byte (5 : Int32) [(.int ((v5.toInt8.toInt32).toInt8.toInt32)), (.int ((v12.toInt8.toInt32).toInt8.toInt32)), (.int (0 : Int32)), (.int (0 : Int32)), (.int (0 : Int32))] (.int (0 : Int32)) := Arv.set Ar72 q72 S72 M72 H72 G72 (fits_nar_byte _) W73 1 rfl (Nat.le_of_ble_eq_true rfl)
      have F75 : Sta Z h73 "com/example/stratafile/stratafile/io/Utf8" "SIZES" "[B" (.ref wS) := F66.wr W73
      have F76 : Sta Z h73 "com/example/stratafile/stratafile/io/Utf8" "SECOND_LOWEST" "[I" (.ref wL) := F67.wr W73
      have F77 : Sta Z h73 "com/example/stratafile/stratafile/io/Utf8" "SECOND_HIGHEST" "[I" (.ref wH) := F68.wr W73
      have N73 := Fr.snoc X73 N64 g_b55
      have Z73 : n0 ≤ h73.size := Nat.le_trans Z64 (Keep.of_wr W73).1
      have K73 : Keep h0 h73 [] := K64.wr W73 (Or.inr sz_b55)
      have F78 : Arr Z h73 wS cS .byte := R_wS.ext (own_ext K73)
      have F79 : Arr Z h73 wL cL .int := R_wL.ext (own_ext K73)
      have F80 : Arr Z h73 wH cH .int := R_wH.ext (own_ext K73)
      obtain ⟨cl81, Ar81, q81, S81, M81, H81, G81⟩ := id F74
      obtain ⟨T82, h82, X82, e82, W82, st82⟩ := stB X73 hx hZ e73 Ar81 (j := (2 : Int32)) (inb_of S81 ⟨by decide, by decide⟩) (g := (mkF m 81 #[.val (.int y1), .val (.int y2), .val (.int y3), .val (.int y4), .val (.int y5), .val (.int y6), .val (.int v5), .val (.int v12), .val (.int v19), .val (.int v26), .val (.int (0 : Int32)), .val (.int (2 : Int32)), .val (.int (2 : Int32)), .val (.ref b55), .unset] [(.int (v19.toInt8.toInt32)), (.int (2 : Int32)), (.ref b55)])) rfl rfl (hb hby at_81)
      have F83 : Arv Z h82 b55 k55 .byte (5 : Int32) [(.int ((v5.toInt8.toInt32).toInt8.toInt32)), (.int ((v12.toInt8.toInt32).toInt8.toInt32)), (.int ((v19.toInt8.toInt32).toInt8.toInt32)), (.int (0 : Int32)), (.int (0 : Int32))] (.int (0 : Int32)) := Arv.set Ar81 q81 S81 M81 H81 G81 (fits_nar_byte _) W82 2 rfl (Nat.le_of_ble_eq_true rfl)
      have F84 : Sta Z h82 "com/example/stratafile/stratafile/io/Utf8" "SIZES" "[B" (.ref wS) := F75.wr W82
      have F85 : Sta Z h82 "com/example/stratafile/stratafile/io/Utf8" "SECOND_LOWEST" "[I" (.ref wL) := F76.wr W82
      have F86 : Sta Z h82 "com/example/stratafile/stratafile/io/Utf8" "SECOND_HIGHEST" "[I" (.ref wH) := F77.wr W82
      have N82 := Fr.snoc X82 N73 g_b55
      have Z82 : n0 ≤ h82.size := Nat.le_trans Z73 (Keep.of_wr W82).1
      have K82 : Keep h0 h82 [] := K73.wr W82 (Or.inr sz_b55)
      have F87 : Arr Z h82 wS cS .byte := R_wS.ext (own_ext K82)
      have F88 : Arr Z h82 wL cL .int := R_wL.ext (own_ext K82)
      have F89 : Arr Z h82 wH cH .int := R_wH.ext (own_ext K82)
      obtain ⟨cl90, Ar90, q90, S90, M90, H90, G90⟩ := id F83
      obtain ⟨T91, h91, X91, e91, W91, st91⟩ := stB X82 hx hZ e82 Ar90 (j := (3 : Int32)) (inb_of S90 ⟨by decide, by decide⟩) (g := (mkF m 91 #[.val (.int y1), .val (.int y2), .val (.int y3), .val (.int y4), .val (.int y5), .val (.int y6), .val (.int v5), .val (.int v12), .val (.int v19), .val (.int v26), .val (.int (0 : Int32)), .val (.int (2 : Int32)), .val (.int (2 : Int32)), .val (.ref b55), .unset] [(.int (v26.toInt8.toInt32)), (.int (3 : Int32)), (.ref b55)])) rfl rfl (hb hby at_91)
      have F92 : Arv Z h91 b55 k55 .byte (5 : Int32) [(.int ((v5.toInt8.toInt32).toInt8.toInt32)), (.int ((v12.toInt8.toInt32).toInt8.toInt32)), (.int ((v19.toInt8.toInt32).toInt8.toInt32)), (.int ((v26.toInt8.toInt32).toInt8.toInt32)), (.int (0 : Int32))] (.int (0 : Int32)) := Arv.set Ar90 q90 S90 M90 H90 G90 (fits_nar_byte _) W91 3 rfl (Nat.le_of_ble_eq_true rfl)
      have F93 : Sta Z h91 "com/example/stratafile/stratafile/io/Utf8" "SIZES" "[B" (.ref wS) := F84.wr W91
      have F94 : Sta Z h91 "com/example/stratafile/stratafile/io/Utf8" "SECOND_LOWEST" "[I" (.ref wL) := F85.wr W91
      have F95 : Sta Z h91 "com/example/stratafile/stratafile/io/Utf8" "SECOND_HIGHEST" "[I" (.ref wH) := F86.wr W91
      have N91 := Fr.snoc X91 N82 g_b55
      have Z91 : n0 ≤ h91.size := Nat.le_trans Z82 (Keep.of_wr W91).1
      have K91 : Keep h0 h91 [] := K82.wr W91 (Or.inr sz_b55)
      have F96 : Arr Z h91 wS cS .byte := R_wS.ext (own_ext K91)
      have F97 : Arr Z h91 wL cL .int := R_wL.ext (own_ext K91)
      have F98 : Arr Z h91 wH cH .int := R_wH.ext (own_ext K91)
      obtain ⟨_, _, ⟨T99, L99, k99, n99⟩, -, X99, ⟨Lc99, hQ99, l99, y99, z99⟩, st99⟩ := Jvm.LawKit.callS X91 hx (y := (⟨"com/example/stratafile/stratafile/io/Utf8", "characterSize", "([BII)I"⟩ : MethodName)) hown (mvT hZ (hw _ (List.mem_of_getElem? (i := 1) rfl))) (mvT hZ (hw _ (List.mem_of_getElem? (i := 2) rfl))) (mvT hZ (hw _ (List.mem_of_getElem? (i := 3) rfl))) (mvT hZ (hw _ (List.mem_of_getElem? (i := 4) rfl))) (by decide) (backOf (W := 0) (own_rm1_0_2 l Z a0 hw [] b55 k55 ((v5.toInt8.toInt32).toInt8.toInt32) ((v12.toInt8.toInt32).toInt8.toInt32) ((v19.toInt8.toInt32).toInt8.toInt32) ((v26.toInt8.toInt32).toInt8.toInt32) (0 : Int32) wS cS wL cL wH cH h91 n0 Z91 F92 F93 F96 F94 F97 F95 F98 (szcS) (tacS) (szcL) (tacL) (szcH) (tacH)) hZ (hw _ (List.mem_of_getElem? (i := 4) rfl)) (hw _ (List.mem_of_getElem? (i := 3) rfl)) (by decide) (by decide)) (g := (mkF m 98 #[.val (.int y1), .val (.int y2), .val (.int y3), .val (.int y4), .val (.int y5), .val (.int y6), .val (.int v5), .val (.int v12), .val (.int v19), .val (.int v26), .val (.int (0 : Int32)), .val (.int (2 : Int32)), .val (.int (2 : Int32)), .val (.ref b55), .unset] [(.int (2 : Int32)), (.int (0 : Int32)), (.ref b55)])) rfl (by rw [hml]; rfl) (argsL := [(.ref b55), (.int (0 : Int32)), (.int (2 : Int32))]) (rest := []) (lenOf own_pd1 rfl) rfl (by show 2 * 0 + _ ≤ _; exact Nat.le_of_eq rfl) (hb hby at_98) (fun _ _ => ⟨rfl, e91, (by decide : 1 + 0 ≤ _), (by decide : 5 + 0 ≤ _)⟩)
      dsimp only [Pt.U, Pt.locs, Pt.cells, Pt.slots] at X99 l99 y99 z99 st99 hQ99
      subst l99 y99 z99
      obtain ⟨rfl, N99q, eh99⟩ := hQ99
      have N99 := Fr.app N91 N99q
      obtain ⟨v101, hv101⟩ : ∃ w : Int32, w = (own_cs 2 (((v5.toInt8.toInt32).toInt8.toInt32) &&& (255 : Int32)) (((v12.toInt8.toInt32).toInt8.toInt32) &&& (255 : Int32)) (((v19.toInt8.toInt32).toInt8.toInt32) &&& (255 : Int32)) (((v26.toInt8.toInt32).toInt8.toInt32) &&& (255 : Int32))) := ⟨_, rfl⟩
      have pre100 : ∀ t, Steps p.tables e below (T99.setTop (mkF m 103 #[.val (.int y1), .val (.int y2), .val (.int y3), .val (.int y4), .val (.int y5), .val (.int y6), .val (.int v5), .val (.int v12), .val (.int v19), .val (.int v26), .val (.int (0 : Int32)), .val (.int (2 : Int32)), .val (.int (2 : Int32)), .val (.ref b55), .val (.int v101)] [])) t → Steps p.tables e below (s₁.setTop (entryFrame m #[(.int y1), (.int y2), (.int y3), (.int y4), (.int y5), (.int y6)] maxLocals)) t := by
        intro t k
        rw [hv101] at k
        refine pre6 _ ?_
        show Steps p.tables e below (s₁.setTop (mkF m 42 #[.val (.int y1), .val (.int y2), .val (.int y3), .val (.int y4), .val (.int y5), .val (.int y6), .val (.int v5), .val (.int v12), .val (.int v19), .val (.int v26), .val (.int (0 : Int32)), .val (.int (2 : Int32)), .unset, .unset, .unset] [])) _
        refine XS.iload X0.here hx rfl (hb hby at_42) rfl ?_
        show Steps p.tables e below (s₁.setTop (mkF m 44 #[.val (.int y1), .val (.int y2), .val (.int y3), .val (.int y4), .val (.int y5), .val (.int y6), .val (.int v5), .val (.int v12), .val (.int v19), .val (.int v26), .val (.int (0 : Int32)), .val (.int (2 : Int32)), .unset, .unset, .unset] [(.int (0 : Int32))])) _
        refine XS.iload X0.here hx rfl (hb hby at_44) rfl ?_
        show Steps p.tables e below (s₁.setTop (mkF m 46 #[.val (.int y1), .val (.int y2), .val (.int y3), .val (.int y4), .val (.int y5), .val (.int y6), .val (.int v5), .val (.int v12), .val (.int v19), .val (.int v26), .val (.int (0 : Int32)), .val (.int (2 : Int32)), .unset, .unset, .unset] [(.int (2 : Int32)), (.int (0 : Int32))])) _
        refine XS.iadd X0.here hx rfl (hb hby at_46) rfl ?_
        show Steps p.tables e below (s₁.setTop (mkF m 47 #[.val (.int y1), .val (.int y2), .val (.int y3), .val (.int y4), .val (.int y5), .val (.int y6), .val (.int v5), .val (.int v12), .val (.int v19), .val (.int v26), .val (.int (0 : Int32)), .val (.int (2 : Int32)), .unset, .unset, .unset] [(.int (2 : Int32))])) _
        refine XS.istore X0.here hx rfl (hb hby at_47) rfl (l' := #[.val (.int y1), .val (.int y2), .val (.int y3), .val (.int y4), .val (.int y5), .val (.int y6), .val (.int v5), .val (.int v12), .val (.int v19), .val (.int v26), .val (.int (0 : Int32)), .val (.int (2 : Int32)), .val (.int (2 : Int32)), .unset, .unset]) rfl ?_
        show Steps p.tables e below (s₁.setTop (mkF m 49 #[.val (.int y1), .val (.int y2), .val (.int y3), .val (.int y4), .val (.int y5), .val (.int y6), .val (.int v5), .val (.int v12), .val (.int v19), .val (.int v26), .val (.int (0 : Int32)), .val (.int (2 : Int32)), .val (.int (2 : Int32)), .unset, .unset] [])) _
        refine XS.iconst X0.here hx rfl (hb hby at_49) ?_
        show Steps p.tables e below (s₁.setTop (mkF m 50 #[.val (.int y1), .val (.int y2), .val (.int y3), .val (.int y4), .val (.int y5), .val (.int y6), .val (.int v5), .val (.int v12), .val (.int v19), .val (.int v26), .val (.int (0 : Int32)), .val (.int (2 : Int32)), .val (.int (2 : Int32)), .unset, .unset] [(.int (5 : Int32))])) _
        refine st55 _ ?_
        show Steps p.tables e below (T55.setTop (mkF m 52 #[.val (.int y1), .val (.int y2), .val (.int y3), .val (.int y4), .val (.int y5), .val (.int y6), .val (.int v5), .val (.int v12), .val (.int v19), .val (.int v26), .val (.int (0 : Int32)), .val (.int (2 : Int32)), .val (.int (2 : Int32)), .unset, .unset] [(.ref b55)])) _
        refine XS.astore X55.here hx rfl (hb hby at_52) rfl rfl (l' := #[.val (.int y1), .val (.int y2), .val (.int y3), .val (.int y4), .val (.int y5), .val (.int y6), .val (.int v5), .val (.int v12), .val (.int v19), .val (.int v26), .val (.int (0 : Int32)), .val (.int (2 : Int32)), .val (.int (2 : Int32)), .val (.ref b55), .unset]) rfl ?_
        show Steps p.tables e below (T55.setTop (mkF m 54 #[.val (.int y1), .val (.int y2), .val (.int y3), .val (.int y4), .val (.int y5), .val (.int y6), .val (.int v5), .val (.int v12), .val (.int v19), .val (.int v26), .val (.int (0 : Int32)), .val (.int (2 : Int32)), .val (.int (2 : Int32)), .val (.ref b55), .unset] [])) _
        refine XS.aload X55.here hx rfl (hb hby at_54) rfl rfl ?_
        show Steps p.tables e below (T55.setTop (mkF m 56 #[.val (.int y1), .val (.int y2), .val (.int y3), .val (.int y4), .val (.int y5), .val (.int y6), .val (.int v5), .val (.int v12), .val (.int v19), .val (.int v26), .val (.int (0 : Int32)), .val (.int (2 : Int32)), .val (.int (2 : Int32)), .val (.ref b55), .unset] [(.ref b55)])) _
        refine XS.iload X55.here hx rfl (hb hby at_56) rfl ?_
        show Steps p.tables e below (T55.setTop (mkF m 58 #[.val (.int y1), .val (.int y2), .val (.int y3), .val (.int y4), .val (.int y5), .val (.int y6), .val (.int v5), .val (.int v12), .val (.int v19), .val (.int v26), .val (.int (0 : Int32)), .val (.int (2 : Int32)), .val (.int (2 : Int32)), .val (.ref b55), .unset] [(.int (0 : Int32)), (.ref b55)])) _
        refine XS.iload X55.here hx rfl (hb hby at_58) rfl ?_
        show Steps p.tables e below (T55.setTop (mkF m 60 #[.val (.int y1), .val (.int y2), .val (.int y3), .val (.int y4), .val (.int y5), .val (.int y6), .val (.int v5), .val (.int v12), .val (.int v19), .val (.int v26), .val (.int (0 : Int32)), .val (.int (2 : Int32)), .val (.int (2 : Int32)), .val (.ref b55), .unset] [(.int v5), (.int (0 : Int32)), (.ref b55)])) _
        refine XS.i2b X55.here hx rfl (hb hby at_60) rfl ?_
        show Steps p.tables e below (T55.setTop (mkF m 61 #[.val (.int y1), .val (.int y2), .val (.int y3), .val (.int y4), .val (.int y5), .val (.int y6), .val (.int v5), .val (.int v12), .val (.int v19), .val (.int v26), .val (.int (0 : Int32)), .val (.int (2 : Int32)), .val (.int (2 : Int32)), .val (.ref b55), .unset] [(.int (v5.toInt8.toInt32)), (.int (0 : Int32)), (.ref b55)])) _
        refine st64 _ ?_
        show Steps p.tables e below (T64.setTop (mkF m 62 #[.val (.int y1), .val (.int y2), .val (.int y3), .val (.int y4), .val (.int y5), .val (.int y6), .val (.int v5), .val (.int v12), .val (.int v19), .val (.int v26), .val (.int (0 : Int32)), .val (.int (2 : Int32)), .val (.int (2 : Int32)), .val (.ref b55), .unset] [])) _
        refine XS.aload X64.here hx rfl (hb hby at_62) rfl rfl ?_
        show Steps p.tables e below (T64.setTop (mkF m 64 #[.val (.int y1), .val (.int y2), .val (.int y3), .val (.int y4), .val (.int y5), .val (.int y6), .val (.int v5), .val (.int v12), .val (.int v19), .val (.int v26), .val (.int (0 : Int32)), .val (.int (2 : Int32)), .val (.int (2 : Int32)), .val (.ref b55), .unset] [(.ref b55)])) _
        refine XS.iload X64.here hx rfl (hb hby at_64) rfl ?_
        show Steps p.tables e below (T64.setTop (mkF m 66 #[.val (.int y1), .val (.int y2), .val (.int y3), .val (.int y4), .val (.int y5), .val (.int y6), .val (.int v5), .val (.int v12), .val (.int v19), .val (.int v26), .val (.int (0 : Int32)), .val (.int (2 : Int32)), .val (.int (2 : Int32)), .val (.ref b55), .unset] [(.int (0 : Int32)), (.ref b55)])) _
        refine XS.iconst X64.here hx rfl (hb hby at_66) ?_
        show Steps p.tables e below (T64.setTop (mkF m 67 #[.val (.int y1), .val (.int y2), .val (.int y3), .val (.int y4), .val (.int y5), .val (.int y6), .val (.int v5), .val (.int v12), .val (.int v19), .val (.int v26), .val (.int (0 : Int32)), .val (.int (2 : Int32)), .val (.int (2 : Int32)), .val (.ref b55), .unset] [(.int (1 : Int32)), (.int (0 : Int32)), (.ref b55)])) _
        refine XS.iadd X64.here hx rfl (hb hby at_67) rfl ?_
        show Steps p.tables e below (T64.setTop (mkF m 68 #[.val (.int y1), .val (.int y2), .val (.int y3), .val (.int y4), .val (.int y5), .val (.int y6), .val (.int v5), .val (.int v12), .val (.int v19), .val (.int v26), .val (.int (0 : Int32)), .val (.int (2 : Int32)), .val (.int (2 : Int32)), .val (.ref b55), .unset] [(.int (1 : Int32)), (.ref b55)])) _
        refine XS.iload X64.here hx rfl (hb hby at_68) rfl ?_
        show Steps p.tables e below (T64.setTop (mkF m 70 #[.val (.int y1), .val (.int y2), .val (.int y3), .val (.int y4), .val (.int y5), .val (.int y6), .val (.int v5), .val (.int v12), .val (.int v19), .val (.int v26), .val (.int (0 : Int32)), .val (.int (2 : Int32)), .val (.int (2 : Int32)), .val (.ref b55), .unset] [(.int v12), (.int (1 : Int32)), (.ref b55)])) _
        refine XS.i2b X64.here hx rfl (hb hby at_70) rfl ?_
        show Steps p.tables e below (T64.setTop (mkF m 71 #[.val (.int y1), .val (.int y2), .val (.int y3), .val (.int y4), .val (.int y5), .val (.int y6), .val (.int v5), .val (.int v12), .val (.int v19), .val (.int v26), .val (.int (0 : Int32)), .val (.int (2 : Int32)), .val (.int (2 : Int32)), .val (.ref b55), .unset] [(.int (v12.toInt8.toInt32)), (.int (1 : Int32)), (.ref b55)])) _
        refine st73 _ ?_
        show Steps p.tables e below (T73.setTop (mkF m 72 #[.val (.int y1), .val (.int y2), .val (.int y3), .val (.int y4), .val (.int y5), .val (.int y6), .val (.int v5), .val (.int v12), .val (.int v19), .val (.int v26), .val (.int (0 : Int32)), .val (.int (2 : Int32)), .val (.int (2 : Int32)), .val (.ref b55), .unset] [])) _
        refine XS.aload X73.here hx rfl (hb hby at_72) rfl rfl ?_
        show Steps p.tables e below (T73.setTop (mkF m 74 #[.val (.int y1), .val (.int y2), .val (.int y3), .val (.int y4), .val (.int y5), .val (.int y6), .val (.int v5), .val (.int v12), .val (.int v19), .val (.int v26), .val (.int (0 : Int32)), .val (.int (2 : Int32)), .val (.int (2 : Int32)), .val (.ref b55), .unset] [(.ref b55)])) _
        refine XS.iload X73.here hx rfl (hb hby at_74) rfl ?_
        show Steps p.tables e below (T73.setTop (mkF m 76 #[.val (.int y1), .val (.int y2), .val (.int y3), .val (.int y4), .val (.int y5), .val (.int y6), .val (.int v5), .val (.int v12), .val (.int v19), .val (.int v26), .val (.int (0 : Int32)), .val (.int (2 : Int32)), .val (.int (2 : Int32)), .val (.ref b55), .unset] [(.int (0 : Int32)), (.ref b55)])) _
        refine XS.iconst X73.here hx rfl (hb hby at_76) ?_
        show Steps p.tables e below (T73.setTop (mkF m 77 #[.val (.int y1), .val (.int y2), .val (.int y3), .val (.int y4), .val (.int y5), .val (.int y6), .val (.int v5), .val (.int v12), .val (.int v19), .val (.int v26), .val (.int (0 : Int32)), .val (.int (2 : Int32)), .val (.int (2 : Int32)), .val (.ref b55), .unset] [(.int (2 : Int32)), (.int (0 : Int32)), (.ref b55)])) _
        refine XS.iadd X73.here hx rfl (hb hby at_77) rfl ?_
        show Steps p.tables e below (T73.setTop (mkF m 78 #[.val (.int y1), .val (.int y2), .val (.int y3), .val (.int y4), .val (.int y5), .val (.int y6), .val (.int v5), .val (.int v12), .val (.int v19), .val (.int v26), .val (.int (0 : Int32)), .val (.int (2 : Int32)), .val (.int (2 : Int32)), .val (.ref b55), .unset] [(.int (2 : Int32)), (.ref b55)])) _
        refine XS.iload X73.here hx rfl (hb hby at_78) rfl ?_
        show Steps p.tables e below (T73.setTop (mkF m 80 #[.val (.int y1), .val (.int y2), .val (.int y3), .val (.int y4), .val (.int y5), .val (.int y6), .val (.int v5), .val (.int v12), .val (.int v19), .val (.int v26), .val (.int (0 : Int32)), .val (.int (2 : Int32)), .val (.int (2 : Int32)), .val (.ref b55), .unset] [(.int v19), (.int (2 : Int32)), (.ref b55)])) _
        refine XS.i2b X73.here hx rfl (hb hby at_80) rfl ?_
        show Steps p.tables e below (T73.setTop (mkF m 81 #[.val (.int y1), .val (.int y2), .val (.int y3), .val (.int y4), .val (.int y5), .val (.int y6), .val (.int v5), .val (.int v12), .val (.int v19), .val (.int v26), .val (.int (0 : Int32)), .val (.int (2 : Int32)), .val (.int (2 : Int32)), .val (.ref b55), .unset] [(.int (v19.toInt8.toInt32)), (.int (2 : Int32)), (.ref b55)])) _
        refine st82 _ ?_
        show Steps p.tables e below (T82.setTop (mkF m 82 #[.val (.int y1), .val (.int y2), .val (.int y3), .val (.int y4), .val (.int y5), .val (.int y6), .val (.int v5), .val (.int v12), .val (.int v19), .val (.int v26), .val (.int (0 : Int32)), .val (.int (2 : Int32)), .val (.int (2 : Int32)), .val (.ref b55), .unset] [])) _
        refine XS.aload X82.here hx rfl (hb hby at_82) rfl rfl ?_
        show Steps p.tables e below (T82.setTop (mkF m 84 #[.val (.int y1), .val (.int y2), .val (.int y3), .val (.int y4), .val (.int y5), .val (.int y6), .val (.int v5), .val (.int v12), .val (.int v19), .val (.int v26), .val (.int (0 : Int32)), .val (.int (2 : Int32)), .val (.int (2 : Int32)), .val (.ref b55), .unset] [(.ref b55)])) _
        refine XS.iload X82.here hx rfl (hb hby at_84) rfl ?_
        show Steps p.tables e below (T82.setTop (mkF m 86 #[.val (.int y1), .val (.int y2), .val (.int y3), .val (.int y4), .val (.int y5), .val (.int y6), .val (.int v5), .val (.int v12), .val (.int v19), .val (.int v26), .val (.int (0 : Int32)), .val (.int (2 : Int32)), .val (.int (2 : Int32)), .val (.ref b55), .unset] [(.int (0 : Int32)), (.ref b55)])) _
        refine XS.iconst X82.here hx rfl (hb hby at_86) ?_
        show Steps p.tables e below (T82.setTop (mkF m 87 #[.val (.int y1), .val (.int y2), .val (.int y3), .val (.int y4), .val (.int y5), .val (.int y6), .val (.int v5), .val (.int v12), .val (.int v19), .val (.int v26), .val (.int (0 : Int32)), .val (.int (2 : Int32)), .val (.int (2 : Int32)), .val (.ref b55), .unset] [(.int (3 : Int32)), (.int (0 : Int32)), (.ref b55)])) _
        refine XS.iadd X82.here hx rfl (hb hby at_87) rfl ?_
        show Steps p.tables e below (T82.setTop (mkF m 88 #[.val (.int y1), .val (.int y2), .val (.int y3), .val (.int y4), .val (.int y5), .val (.int y6), .val (.int v5), .val (.int v12), .val (.int v19), .val (.int v26), .val (.int (0 : Int32)), .val (.int (2 : Int32)), .val (.int (2 : Int32)), .val (.ref b55), .unset] [(.int (3 : Int32)), (.ref b55)])) _
        refine XS.iload X82.here hx rfl (hb hby at_88) rfl ?_
        show Steps p.tables e below (T82.setTop (mkF m 90 #[.val (.int y1), .val (.int y2), .val (.int y3), .val (.int y4), .val (.int y5), .val (.int y6), .val (.int v5), .val (.int v12), .val (.int v19), .val (.int v26), .val (.int (0 : Int32)), .val (.int (2 : Int32)), .val (.int (2 : Int32)), .val (.ref b55), .unset] [(.int v26), (.int (3 : Int32)), (.ref b55)])) _
        refine XS.i2b X82.here hx rfl (hb hby at_90) rfl ?_
        show Steps p.tables e below (T82.setTop (mkF m 91 #[.val (.int y1), .val (.int y2), .val (.int y3), .val (.int y4), .val (.int y5), .val (.int y6), .val (.int v5), .val (.int v12), .val (.int v19), .val (.int v26), .val (.int (0 : Int32)), .val (.int (2 : Int32)), .val (.int (2 : Int32)), .val (.ref b55), .unset] [(.int (v26.toInt8.toInt32)), (.int (3 : Int32)), (.ref b55)])) _
        refine st91 _ ?_
        show Steps p.tables e below (T91.setTop (mkF m 92 #[.val (.int y1), .val (.int y2), .val (.int y3), .val (.int y4), .val (.int y5), .val (.int y6), .val (.int v5), .val (.int v12), .val (.int v19), .val (.int v26), .val (.int (0 : Int32)), .val (.int (2 : Int32)), .val (.int (2 : Int32)), .val (.ref b55), .unset] [])) _
        refine XS.aload X91.here hx rfl (hb hby at_92) rfl rfl ?_
        show Steps p.tables e below (T91.setTop (mkF m 94 #[.val (.int y1), .val (.int y2), .val (.int y3), .val (.int y4), .val (.int y5), .val (.int y6), .val (.int v5), .val (.int v12), .val (.int v19), .val (.int v26), .val (.int (0 : Int32)), .val (.int (2 : Int32)), .val (.int (2 : Int32)), .val (.ref b55), .unset] [(.ref b55)])) _
        refine XS.iload X91.here hx rfl (hb hby at_94) rfl ?_
        show Steps p.tables e below (T91.setTop (mkF m 96 #[.val (.int y1), .val (.int y2), .val (.int y3), .val (.int y4), .val (.int y5), .val (.int y6), .val (.int v5), .val (.int v12), .val (.int v19), .val (.int v26), .val (.int (0 : Int32)), .val (.int (2 : Int32)), .val (.int (2 : Int32)), .val (.ref b55), .unset] [(.int (0 : Int32)), (.ref b55)])) _
        refine XS.iload X91.here hx rfl (hb hby at_96) rfl ?_
        show Steps p.tables e below (T91.setTop (mkF m 98 #[.val (.int y1), .val (.int y2), .val (.int y3), .val (.int y4), .val (.int y5), .val (.int y6), .val (.int v5), .val (.int v12), .val (.int v19), .val (.int v26), .val (.int (0 : Int32)), .val (.int (2 : Int32)), .val (.int (2 : Int32)), .val (.ref b55), .unset] [(.int (2 : Int32)), (.int (0 : Int32)), (.ref b55)])) _
        refine st99 _ ?_
        show Steps p.tables e below (T99.setTop (mkF m 101 #[.val (.int y1), .val (.int y2), .val (.int y3), .val (.int y4), .val (.int y5), .val (.int y6), .val (.int v5), .val (.int v12), .val (.int v19), .val (.int v26), .val (.int (0 : Int32)), .val (.int (2 : Int32)), .val (.int (2 : Int32)), .val (.ref b55), .unset] [(.int (own_cs 2 (((v5.toInt8.toInt32).toInt8.toInt32) &&& (255 : Int32)) (((v12.toInt8.toInt32).toInt8.toInt32) &&& (255 : Int32)) (((v19.toInt8.toInt32).toInt8.toInt32) &&& (255 : Int32)) (((v26.toInt8.toInt32).toInt8.toInt32) &&& (255 : Int32))))])) _
        refine XS.istore X99.here hx rfl (hb hby at_101) rfl (l' := #[.val (.int y1), .val (.int y2), .val (.int y3), .val (.int y4), .val (.int y5), .val (.int y6), .val (.int v5), .val (.int v12), .val (.int v19), .val (.int v26), .val (.int (0 : Int32)), .val (.int (2 : Int32)), .val (.int (2 : Int32)), .val (.ref b55), .val (.int (own_cs 2 (((v5.toInt8.toInt32).toInt8.toInt32) &&& (255 : Int32)) (((v12.toInt8.toInt32).toInt8.toInt32) &&& (255 : Int32)) (((v19.toInt8.toInt32).toInt8.toInt32) &&& (255 : Int32)) (((v26.toInt8.toInt32).toInt8.toInt32) &&& (255 : Int32))))]) rfl ?_
        exact k
      obtain ⟨_, _, ⟨T101, L101, k101, n101⟩, -, X101, ⟨Lc101, hQ101, l101, y101, z101⟩, st101⟩ := Jvm.LawKit.callS X99 hx (y := (⟨"com/example/stratafile/stratafile/io/Utf8CharacterSizePinLaw", "expected", "(IIIII)I"⟩ : MethodName)) hown (mvT hZ (hw _ (List.mem_of_getElem? (i := 11) rfl))) (mvT hZ (hw _ (List.mem_of_getElem? (i := 12) rfl))) (mvT hZ (hw _ (List.mem_of_getElem? (i := 13) rfl))) (mvT hZ (hw _ (List.mem_of_getElem? (i := 14) rfl))) (by decide) (backOf (W := 1) (own_rm2 l Z a0 hw [] v5 v12 v19 v26 (2 : Int32) h91 n0 Z91 ) hZ (hw _ (List.mem_of_getElem? (i := 14) rfl)) (hw _ (List.mem_of_getElem? (i := 13) rfl)) (by decide) (by decide)) (g := (mkF m 115 #[.val (.int y1), .val (.int y2), .val (.int y3), .val (.int y4), .val (.int y5), .val (.int y6), .val (.int v5), .val (.int v12), .val (.int v19), .val (.int v26), .val (.int (0 : Int32)), .val (.int (2 : Int32)), .val (.int (2 : Int32)), .val (.ref b55), .val (.int v101)] [(.int (2 : Int32)), (.int v26), (.int v19), (.int v12), (.int v5), (.int v101)])) rfl (by rw [hml]; rfl) (argsL := [(.int v5), (.int v12), (.int v19), (.int v26), (.int (2 : Int32))]) (rest := [(.int v101)]) (lenOf own_pd2 rfl) rfl (by show 2 * 0 + _ ≤ _; exact Nat.le_of_eq rfl) (hb hby at_115) (fun _ _ => ⟨rfl, eh99, (by decide : 1 + 0 ≤ _), (by decide : 5 + 0 ≤ _)⟩)
      dsimp only [Pt.U, Pt.locs, Pt.cells, Pt.slots] at X101 l101 y101 z101 st101 hQ101
      subst l101 y101 z101
      obtain ⟨rfl, N101q, eh101⟩ := hQ101
      have N101 := Fr.app N99 N101q
      have hd102 : v101 = (own_ex v5 v12 v19 v26 (2 : Int32)) := (by rw [hv101, hv5, hv12, hv19, hv26, own_bb, own_bb, own_bb, own_bb]; exact own_fin 2 _ _ _ _ _ (by decide))
      obtain ⟨fs, hr, hrun, hended, hW, hsame⟩ := X101.leave (v := some (.int (1 : Int32))) (fun h => by rw [Bd.returns] at h; cases h)
      refine ⟨_, _, pre100 _ ?_, hrun, hended, _, _, rfl, ?_, ⟨_, rfl⟩, hW, hsame.mono (by decide) (by decide)⟩
      · show Steps p.tables e below (T99.setTop (mkF m 103 #[.val (.int y1), .val (.int y2), .val (.int y3), .val (.int y4), .val (.int y5), .val (.int y6), .val (.int v5), .val (.int v12), .val (.int v19), .val (.int v26), .val (.int (0 : Int32)), .val (.int (2 : Int32)), .val (.int (2 : Int32)), .val (.ref b55), .val (.int v101)] [])) _
        refine XS.iload X99.here hx rfl (hb hby at_103) rfl ?_
        show Steps p.tables e below (T99.setTop (mkF m 105 #[.val (.int y1), .val (.int y2), .val (.int y3), .val (.int y4), .val (.int y5), .val (.int y6), .val (.int v5), .val (.int v12), .val (.int v19), .val (.int v26), .val (.int (0 : Int32)), .val (.int (2 : Int32)), .val (.int (2 : Int32)), .val (.ref b55), .val (.int v101)] [(.int v101)])) _
        refine XS.iload X99.here hx rfl (hb hby at_105) rfl ?_
        show Steps p.tables e below (T99.setTop (mkF m 107 #[.val (.int y1), .val (.int y2), .val (.int y3), .val (.int y4), .val (.int y5), .val (.int y6), .val (.int v5), .val (.int v12), .val (.int v19), .val (.int v26), .val (.int (0 : Int32)), .val (.int (2 : Int32)), .val (.int (2 : Int32)), .val (.ref b55), .val (.int v101)] [(.int v5), (.int v101)])) _
        refine XS.iload X99.here hx rfl (hb hby at_107) rfl ?_
        show Steps p.tables e below (T99.setTop (mkF m 109 #[.val (.int y1), .val (.int y2), .val (.int y3), .val (.int y4), .val (.int y5), .val (.int y6), .val (.int v5), .val (.int v12), .val (.int v19), .val (.int v26), .val (.int (0 : Int32)), .val (.int (2 : Int32)), .val (.int (2 : Int32)), .val (.ref b55), .val (.int v101)] [(.int v12), (.int v5), (.int v101)])) _
        refine XS.iload X99.here hx rfl (hb hby at_109) rfl ?_
        show Steps p.tables e below (T99.setTop (mkF m 111 #[.val (.int y1), .val (.int y2), .val (.int y3), .val (.int y4), .val (.int y5), .val (.int y6), .val (.int v5), .val (.int v12), .val (.int v19), .val (.int v26), .val (.int (0 : Int32)), .val (.int (2 : Int32)), .val (.int (2 : Int32)), .val (.ref b55), .val (.int v101)] [(.int v19), (.int v12), (.int v5), (.int v101)])) _
        refine XS.iload X99.here hx rfl (hb hby at_111) rfl ?_
        show Steps p.tables e below (T99.setTop (mkF m 113 #[.val (.int y1), .val (.int y2), .val (.int y3), .val (.int y4), .val (.int y5), .val (.int y6), .val (.int v5), .val (.int v12), .val (.int v19), .val (.int v26), .val (.int (0 : Int32)), .val (.int (2 : Int32)), .val (.int (2 : Int32)), .val (.ref b55), .val (.int v101)] [(.int v26), (.int v19), (.int v12), (.int v5), (.int v101)])) _
        refine XS.iload X99.here hx rfl (hb hby at_113) rfl ?_
        show Steps p.tables e below (T99.setTop (mkF m 115 #[.val (.int y1), .val (.int y2), .val (.int y3), .val (.int y4), .val (.int y5), .val (.int y6), .val (.int v5), .val (.int v12), .val (.int v19), .val (.int v26), .val (.int (0 : Int32)), .val (.int (2 : Int32)), .val (.int (2 : Int32)), .val (.ref b55), .val (.int v101)] [(.int (2 : Int32)), (.int v26), (.int v19), (.int v12), (.int v5), (.int v101)])) _
        refine st101 _ ?_
        show Steps p.tables e below (T101.setTop (mkF m 118 #[.val (.int y1), .val (.int y2), .val (.int y3), .val (.int y4), .val (.int y5), .val (.int y6), .val (.int v5), .val (.int v12), .val (.int v19), .val (.int v26), .val (.int (0 : Int32)), .val (.int (2 : Int32)), .val (.int (2 : Int32)), .val (.ref b55), .val (.int v101)] [(.int (own_ex v5 v12 v19 v26 (2 : Int32))), (.int v101)])) _
        refine XS.icmpNo X101.here hx rfl (hb hby at_118) rfl (teq hd102).2 ?_
        show Steps p.tables e below (T101.setTop (mkF m 121 #[.val (.int y1), .val (.int y2), .val (.int y3), .val (.int y4), .val (.int y5), .val (.int y6), .val (.int v5), .val (.int v12), .val (.int v19), .val (.int v26), .val (.int (0 : Int32)), .val (.int (2 : Int32)), .val (.int (2 : Int32)), .val (.ref b55), .val (.int v101)] [])) _
        refine XS.iconst X101.here hx rfl (hb hby at_121) ?_
        show Steps p.tables e below (T101.setTop (mkF m 122 #[.val (.int y1), .val (.int y2), .val (.int y3), .val (.int y4), .val (.int y5), .val (.int y6), .val (.int v5), .val (.int v12), .val (.int v19), .val (.int v26), .val (.int (0 : Int32)), .val (.int (2 : Int32)), .val (.int (2 : Int32)), .val (.ref b55), .val (.int v101)] [(.int (1 : Int32))])) _
        refine XS.goto X101.here hx rfl (pc0 := 122) (pc' := 126) rfl (hb hby at_122) (by decide) (by decide) ?_
        show Steps p.tables e below (T101.setTop (mkF m 126 #[.val (.int y1), .val (.int y2), .val (.int y3), .val (.int y4), .val (.int y5), .val (.int y6), .val (.int v5), .val (.int v12), .val (.int v19), .val (.int v26), .val (.int (0 : Int32)), .val (.int (2 : Int32)), .val (.int (2 : Int32)), .val (.ref b55), .val (.int v101)] [(.int (1 : Int32))])) _
        exact retN X101 hx (t := .boolean) Bd.returns (by simp) (hb hby at_126) hr
      · show own_Q0 Z y1 y2 y3 y4 y5 y6 wS cS wL cL wH cH h0 n0 _ T101.heap _
        rw [eh101]
        exact ⟨rfl, N101⟩
    · subst hs_v40
      obtain ⟨T103, h103, k103, X103, e103, E103, A103, st103⟩ := newP X0 hx hZ (hw _ (List.mem_of_getElem? (i := 0) rfl)) e0 (g := (mkF m 50 #[.val (.int y1), .val (.int y2), .val (.int y3), .val (.int y4), .val (.int y5), .val (.int y6), .val (.int v5), .val (.int v12), .val (.int v19), .val (.int v26), .val (.int (0 : Int32)), .val (.int (3 : Int32)), .val (.int (3 : Int32)), .unset, .unset] [(.int (5 : Int32))])) rfl (hb hby at_50) rfl (by decide) (cap := 5) (by decide) (by decide) (by decide) (by decide)
      obtain ⟨b103, g103⟩ : ∃ z, z = h0.size := ⟨_, rfl⟩
      rw [← g103] at A103 st103
      have ne_wS_b103 : wS ≠ b103 := Nat.ne_of_lt (Nat.lt_of_lt_of_le R_wS.lt (Nat.le_of_eq g103.symm))
      have ne_wL_b103 : wL ≠ b103 := Nat.ne_of_lt (Nat.lt_of_lt_of_le R_wL.lt (Nat.le_of_eq g103.symm))
      have ne_wH_b103 : wH ≠ b103 := Nat.ne_of_lt (Nat.lt_of_lt_of_le R_wH.lt (Nat.le_of_eq g103.symm))
      have g_b103 : n0 ≤ b103 := Nat.le_trans Z0 (Nat.le_of_eq g103.symm)
      have sz_b103 : h0.size ≤ b103 := Nat.le_trans K0.1 (Nat.le_of_eq g103.symm)
      have K103 : Keep h0 h103 [] := K0.ext E103
      have F104 : Sta Z h103 "com/example/stratafile/stratafile/io/Utf8" "SIZES" "[B" (.ref wS) := S_SIZES.ext E103
      have F105 : Arr Z h103 wS cS .byte := R_wS.ext E103
      have F106 : Sta Z h103 "com/example/stratafile/stratafile/io/Utf8" "SECOND_LOWEST" "[I" (.ref wL) := S_SECOND_LOWEST.ext E103
      have F107 : Arr Z h103 wL cL .int := R_wL.ext E103
      have F108 : Sta Z h103 "com/example/stratafile/stratafile/io/Utf8" "SECOND_HIGHEST" "[I" (.ref wH) := S_SECOND_HIGHEST.ext E103
      have F109 : Arr Z h103 wH cH .int := R_wH.ext E103
      have Z103 : n0 ≤ h103.size := Nat.le_trans Z0 E103.1
      have F110 : Arv Z h103 b103 k103 .byte (5 : Int32) [(.int (0 : Int32)), (.int (0 : Int32)), (.int (0 : Int32)), (.int (0 : Int32)), (.int (0 : Int32))] (.int (0 : Int32)) := (Arv.new A103 (by decide)).pad (pad_rep [] (.int (0 : Int32)) 5)
      obtain ⟨cl111, Ar111, q111, S111, M111, H111, G111⟩ := id F110
      obtain ⟨T112, h112, X112, e112, W112, st112⟩ := stB X103 hx hZ e103 Ar111 (j := (0 : Int32)) (inb_of S111 ⟨by decide, by decide⟩) (g := (mkF m 61 #[.val (.int y1), .val (.int y2), .val (.int y3), .val (.int y4), .val (.int y5), .val (.int y6), .val (.int v5), .val (.int v12), .val (.int v19), .val (.int v26), .val (.int (0 : Int32)), .val (.int (3 : Int32)), .val (.int (3 : Int32)), .val (.ref b103), .unset] [(.int (v5.toInt8.toInt32)), (.int (0 : Int32)), (.ref b103)])) rfl rfl (hb hby at_61)
      have F113 : Arv Z h112 b103 k103 .byte (5 : Int32) [(.int ((v5.toInt8.toInt32).toInt8.toInt32)), (.int (0 : Int32)), (.int (0 : Int32)), (.int (0 : Int32)), (.int (0 : Int32))] (.int (0 : Int32)) := Arv.set Ar111 q111 S111 M111 H111 G111 (fits_nar_byte _) W112 0 rfl (Nat.le_of_ble_eq_true rfl)
      have F114 : Sta Z h112 "com/example/stratafile/stratafile/io/Utf8" "SIZES" "[B" (.ref wS) := F104.wr W112
      have F115 : Sta Z h112 "com/example/stratafile/stratafile/io/Utf8" "SECOND_LOWEST" "[I" (.ref wL) := F106.wr W112
      have F116 : Sta Z h112 "com/example/stratafile/stratafile/io/Utf8" "SECOND_HIGHEST" "[I" (.ref wH) := F108.wr W112
      have N112 := Fr.snoc X112 N0 g_b103
      have Z112 : n0 ≤ h112.size := Nat.le_trans Z103 (Keep.of_wr W112).1
      have K112 : Keep h0 h112 [] := K103.wr W112 (Or.inr sz_b103)
      have F117 : Arr Z h112 wS cS .byte := R_wS.ext (own_ext K112)
      have F118 : Arr Z h112 wL cL .int := R_wL.ext (own_ext K112)
      have F119 : Arr Z h112 wH cH .int := R_wH.ext (own_ext K112)
      obtain ⟨cl120, Ar120, q120, S120, M120, H120, G120⟩ := id F113
      obtain ⟨T121, h121, X121, e121, W121, st121⟩ := stB X112 hx hZ e112 Ar120 (j := (1 : Int32)) (inb_of S120 ⟨by decide, by decide⟩) (g := (mkF m 71 #[.val (.int y1), .val (.int y2), .val (.int y3), .val (.int y4), .val (.int y5), .val (.int y6), .val (.int v5), .val (.int v12), .val (.int v19), .val (.int v26), .val (.int (0 : Int32)), .val (.int (3 : Int32)), .val (.int (3 : Int32)), .val (.ref b103), .unset] [(.int (v12.toInt8.toInt32)), (.int (1 : Int32)), (.ref b103)])) rfl rfl (hb hby at_71)
      have F122 : Arv Z h121 b103 k103 .byte (5 : Int32) [(.int ((v5.toInt8.toInt32).toInt8.toInt32)), (.int ((v12.toInt8.toInt32).toInt8.toInt32)), (.int (0 : Int32)), (.int (0 : Int32)), (.int (0 : Int32))] (.int (0 : Int32)) := Arv.set Ar120 q120 S120 M120 H120 G120 (fits_nar_byte _) W121 1 rfl (Nat.le_of_ble_eq_true rfl)
      have F123 : Sta Z h121 "com/example/stratafile/stratafile/io/Utf8" "SIZES" "[B" (.ref wS) := F114.wr W121
      have F124 : Sta Z h121 "com/example/stratafile/stratafile/io/Utf8" "SECOND_LOWEST" "[I" (.ref wL) := F115.wr W121
      have F125 : Sta Z h121 "com/example/stratafile/stratafile/io/Utf8" "SECOND_HIGHEST" "[I" (.ref wH) := F116.wr W121
      have N121 := Fr.snoc X121 N112 g_b103
      have Z121 : n0 ≤ h121.size := Nat.le_trans Z112 (Keep.of_wr W121).1
      have K121 : Keep h0 h121 [] := K112.wr W121 (Or.inr sz_b103)
      have F126 : Arr Z h121 wS cS .byte := R_wS.ext (own_ext K121)
      have F127 : Arr Z h121 wL cL .int := R_wL.ext (own_ext K121)
      have F128 : Arr Z h121 wH cH .int := R_wH.ext (own_ext K121)
      obtain ⟨cl129, Ar129, q129, S129, M129, H129, G129⟩ := id F122
      obtain ⟨T130, h130, X130, e130, W130, st130⟩ := stB X121 hx hZ e121 Ar129 (j := (2 : Int32)) (inb_of S129 ⟨by decide, by decide⟩) (g := (mkF m 81 #[.val (.int y1), .val (.int y2), .val (.int y3), .val (.int y4), .val (.int y5), .val (.int y6), .val (.int v5), .val (.int v12), .val (.int v19), .val (.int v26), .val (.int (0 : Int32)), .val (.int (3 : Int32)), .val (.int (3 : Int32)), .val (.ref b103), .unset] [(.int (v19.toInt8.toInt32)), (.int (2 : Int32)), (.ref b103)])) rfl rfl (hb hby at_81)
      have F131 : Arv Z h130 b103 k103 .byte (5 : Int32) [(.int ((v5.toInt8.toInt32).toInt8.toInt32)), (.int ((v12.toInt8.toInt32).toInt8.toInt32)), (.int ((v19.toInt8.toInt32).toInt8.toInt32)), (.int (0 : Int32)), (.int (0 : Int32))] (.int (0 : Int32)) := Arv.set Ar129 q129 S129 M129 H129 G129 (fits_nar_byte _) W130 2 rfl (Nat.le_of_ble_eq_true rfl)
      have F132 : Sta Z h130 "com/example/stratafile/stratafile/io/Utf8" "SIZES" "[B" (.ref wS) := F123.wr W130
      have F133 : Sta Z h130 "com/example/stratafile/stratafile/io/Utf8" "SECOND_LOWEST" "[I" (.ref wL) := F124.wr W130
      have F134 : Sta Z h130 "com/example/stratafile/stratafile/io/Utf8" "SECOND_HIGHEST" "[I" (.ref wH) := F125.wr W130
      have N130 := Fr.snoc X130 N121 g_b103
      have Z130 : n0 ≤ h130.size := Nat.le_trans Z121 (Keep.of_wr W130).1
      have K130 : Keep h0 h130 [] := K121.wr W130 (Or.inr sz_b103)
      have F135 : Arr Z h130 wS cS .byte := R_wS.ext (own_ext K130)
      have F136 : Arr Z h130 wL cL .int := R_wL.ext (own_ext K130)
      have F137 : Arr Z h130 wH cH .int := R_wH.ext (own_ext K130)
      obtain ⟨cl138, Ar138, q138, S138, M138, H138, G138⟩ := id F131
      obtain ⟨T139, h139, X139, e139, W139, st139⟩ := stB X130 hx hZ e130 Ar138 (j := (3 : Int32)) (inb_of S138 ⟨by decide, by decide⟩) (g := (mkF m 91 #[.val (.int y1), .val (.int y2), .val (.int y3), .val (.int y4), .val (.int y5), .val (.int y6), .val (.int v5), .val (.int v12), .val (.int v19), .val (.int v26), .val (.int (0 : Int32)), .val (.int (3 : Int32)), .val (.int (3 : Int32)), .val (.ref b103), .unset] [(.int (v26.toInt8.toInt32)), (.int (3 : Int32)), (.ref b103)])) rfl rfl (hb hby at_91)
      have F140 : Arv Z h139 b103 k103 .byte (5 : Int32) [(.int ((v5.toInt8.toInt32).toInt8.toInt32)), (.int ((v12.toInt8.toInt32).toInt8.toInt32)), (.int ((v19.toInt8.toInt32).toInt8.toInt32)), (.int ((v26.toInt8.toInt32).toInt8.toInt32)), (.int (0 : Int32))] (.int (0 : Int32)) := Arv.set Ar138 q138 S138 M138 H138 G138 (fits_nar_byte _) W139 3 rfl (Nat.le_of_ble_eq_true rfl)
      have F141 : Sta Z h139 "com/example/stratafile/stratafile/io/Utf8" "SIZES" "[B" (.ref wS) := F132.wr W139
      have F142 : Sta Z h139 "com/example/stratafile/stratafile/io/Utf8" "SECOND_LOWEST" "[I" (.ref wL) := F133.wr W139
      have F143 : Sta Z h139 "com/example/stratafile/stratafile/io/Utf8" "SECOND_HIGHEST" "[I" (.ref wH) := F134.wr W139
      have N139 := Fr.snoc X139 N130 g_b103
      have Z139 : n0 ≤ h139.size := Nat.le_trans Z130 (Keep.of_wr W139).1
      have K139 : Keep h0 h139 [] := K130.wr W139 (Or.inr sz_b103)
      have F144 : Arr Z h139 wS cS .byte := R_wS.ext (own_ext K139)
      have F145 : Arr Z h139 wL cL .int := R_wL.ext (own_ext K139)
      have F146 : Arr Z h139 wH cH .int := R_wH.ext (own_ext K139)
      obtain ⟨_, _, ⟨T147, L147, k147, n147⟩, -, X147, ⟨Lc147, hQ147, l147, y147, z147⟩, st147⟩ := Jvm.LawKit.callS X139 hx (y := (⟨"com/example/stratafile/stratafile/io/Utf8", "characterSize", "([BII)I"⟩ : MethodName)) hown (mvT hZ (hw _ (List.mem_of_getElem? (i := 1) rfl))) (mvT hZ (hw _ (List.mem_of_getElem? (i := 2) rfl))) (mvT hZ (hw _ (List.mem_of_getElem? (i := 3) rfl))) (mvT hZ (hw _ (List.mem_of_getElem? (i := 4) rfl))) (by decide) (backOf (W := 0) (own_rm1_0_3 l Z a0 hw [] b103 k103 ((v5.toInt8.toInt32).toInt8.toInt32) ((v12.toInt8.toInt32).toInt8.toInt32) ((v19.toInt8.toInt32).toInt8.toInt32) ((v26.toInt8.toInt32).toInt8.toInt32) (0 : Int32) wS cS wL cL wH cH h139 n0 Z139 F140 F141 F144 F142 F145 F143 F146 (szcS) (tacS) (szcL) (tacL) (szcH) (tacH)) hZ (hw _ (List.mem_of_getElem? (i := 4) rfl)) (hw _ (List.mem_of_getElem? (i := 3) rfl)) (by decide) (by decide)) (g := (mkF m 98 #[.val (.int y1), .val (.int y2), .val (.int y3), .val (.int y4), .val (.int y5), .val (.int y6), .val (.int v5), .val (.int v12), .val (.int v19), .val (.int v26), .val (.int (0 : Int32)), .val (.int (3 : Int32)), .val (.int (3 : Int32)), .val (.ref b103), .unset] [(.int (3 : Int32)), (.int (0 : Int32)), (.ref b103)])) rfl (by rw [hml]; rfl) (argsL := [(.ref b103), (.int (0 : Int32)), (.int (3 : Int32))]) (rest := []) (lenOf own_pd1 rfl) rfl (by show 2 * 0 + _ ≤ _; exact Nat.le_of_eq rfl) (hb hby at_98) (fun _ _ => ⟨rfl, e139, (by decide : 1 + 0 ≤ _), (by decide : 5 + 0 ≤ _)⟩)
      dsimp only [Pt.U, Pt.locs, Pt.cells, Pt.slots] at X147 l147 y147 z147 st147 hQ147
      subst l147 y147 z147
      obtain ⟨rfl, N147q, eh147⟩ := hQ147
      have N147 := Fr.app N139 N147q
      obtain ⟨v101, hv101⟩ : ∃ w : Int32, w = (own_cs 3 (((v5.toInt8.toInt32).toInt8.toInt32) &&& (255 : Int32)) (((v12.toInt8.toInt32).toInt8.toInt32) &&& (255 : Int32)) (((v19.toInt8.toInt32).toInt8.toInt32) &&& (255 : Int32)) (((v26.toInt8.toInt32).toInt8.toInt32) &&& (255 : Int32))) := ⟨_, rfl⟩
      have pre148 : ∀ t, Steps p.tables e below (T147.setTop (mkF m 103 #[.val (.int y1), .val (.int y2), .val (.int y3), .val (.int y4), .val (.int y5), .val (.int y6), .val (.int v5), .val (.int v12), .val (.int v19), .val (.int v26), .val (.int (0 : Int32)), .val (.int (3 : Int32)), .val (.int (3 : Int32)), .val (.ref b103), .val (.int v101)] [])) t → Steps p.tables e below (s₁.setTop (entryFrame m #[(.int y1), (.int y2), (.int y3), (.int y4), (.int y5), (.int y6)] maxLocals)) t := by
        intro t k
        rw [hv101] at k
        refine pre6 _ ?_
        show Steps p.tables e below (s₁.setTop (mkF m 42 #[.val (.int y1), .val (.int y2), .val (.int y3), .val (.int y4), .val (.int y5), .val (.int y6), .val (.int v5), .val (.int v12), .val (.int v19), .val (.int v26), .val (.int (0 : Int32)), .val (.int (3 : Int32)), .unset, .unset, .unset] [])) _
        refine XS.iload X0.here hx rfl (hb hby at_42) rfl ?_
        show Steps p.tables e below (s₁.setTop (mkF m 44 #[.val (.int y1), .val (.int y2), .val (.int y3), .val (.int y4), .val (.int y5), .val (.int y6), .val (.int v5), .val (.int v12), .val (.int v19), .val (.int v26), .val (.int (0 : Int32)), .val (.int (3 : Int32)), .unset, .unset, .unset] [(.int (0 : Int32))])) _
        refine XS.iload X0.here hx rfl (hb hby at_44) rfl ?_
        show Steps p.tables e below (s₁.setTop (mkF m 46 #[.val (.int y1), .val (.int y2), .val (.int y3), .val (.int y4), .val (.int y5), .val (.int y6), .val (.int v5), .val (.int v12), .val (.int v19), .val (.int v26), .val (.int (0 : Int32)), .val (.int (3 : Int32)), .unset, .unset, .unset] [(.int (3 : Int32)), (.int (0 : Int32))])) _
        refine XS.iadd X0.here hx rfl (hb hby at_46) rfl ?_
        show Steps p.tables e below (s₁.setTop (mkF m 47 #[.val (.int y1), .val (.int y2), .val (.int y3), .val (.int y4), .val (.int y5), .val (.int y6), .val (.int v5), .val (.int v12), .val (.int v19), .val (.int v26), .val (.int (0 : Int32)), .val (.int (3 : Int32)), .unset, .unset, .unset] [(.int (3 : Int32))])) _
        refine XS.istore X0.here hx rfl (hb hby at_47) rfl (l' := #[.val (.int y1), .val (.int y2), .val (.int y3), .val (.int y4), .val (.int y5), .val (.int y6), .val (.int v5), .val (.int v12), .val (.int v19), .val (.int v26), .val (.int (0 : Int32)), .val (.int (3 : Int32)), .val (.int (3 : Int32)), .unset, .unset]) rfl ?_
        show Steps p.tables e below (s₁.setTop (mkF m 49 #[.val (.int y1), .val (.int y2), .val (.int y3), .val (.int y4), .val (.int y5), .val (.int y6), .val (.int v5), .val (.int v12), .val (.int v19), .val (.int v26), .val (.int (0 : Int32)), .val (.int (3 : Int32)), .val (.int (3 : Int32)), .unset, .unset] [])) _
        refine XS.iconst X0.here hx rfl (hb hby at_49) ?_
        show Steps p.tables e below (s₁.setTop (mkF m 50 #[.val (.int y1), .val (.int y2), .val (.int y3), .val (.int y4), .val (.int y5), .val (.int y6), .val (.int v5), .val (.int v12), .val (.int v19), .val (.int v26), .val (.int (0 : Int32)), .val (.int (3 : Int32)), .val (.int (3 : Int32)), .unset, .unset] [(.int (5 : Int32))])) _
        refine st103 _ ?_
        show Steps p.tables e below (T103.setTop (mkF m 52 #[.val (.int y1), .val (.int y2), .val (.int y3), .val (.int y4), .val (.int y5), .val (.int y6), .val (.int v5), .val (.int v12), .val (.int v19), .val (.int v26), .val (.int (0 : Int32)), .val (.int (3 : Int32)), .val (.int (3 : Int32)), .unset, .unset] [(.ref b103)])) _
        refine XS.astore X103.here hx rfl (hb hby at_52) rfl rfl (l' := #[.val (.int y1), .val (.int y2), .val (.int y3), .val (.int y4), .val (.int y5), .val (.int y6), .val (.int v5), .val (.int v12), .val (.int v19), .val (.int v26), .val (.int (0 : Int32)), .val (.int (3 : Int32)), .val (.int (3 : Int32)), .val (.ref b103), .unset]) rfl ?_
        show Steps p.tables e below (T103.setTop (mkF m 54 #[.val (.int y1), .val (.int y2), .val (.int y3), .val (.int y4), .val (.int y5), .val (.int y6), .val (.int v5), .val (.int v12), .val (.int v19), .val (.int v26), .val (.int (0 : Int32)), .val (.int (3 : Int32)), .val (.int (3 : Int32)), .val (.ref b103), .unset] [])) _
        refine XS.aload X103.here hx rfl (hb hby at_54) rfl rfl ?_
        show Steps p.tables e below (T103.setTop (mkF m 56 #[.val (.int y1), .val (.int y2), .val (.int y3), .val (.int y4), .val (.int y5), .val (.int y6), .val (.int v5), .val (.int v12), .val (.int v19), .val (.int v26), .val (.int (0 : Int32)), .val (.int (3 : Int32)), .val (.int (3 : Int32)), .val (.ref b103), .unset] [(.ref b103)])) _
        refine XS.iload X103.here hx rfl (hb hby at_56) rfl ?_
        show Steps p.tables e below (T103.setTop (mkF m 58 #[.val (.int y1), .val (.int y2), .val (.int y3), .val (.int y4), .val (.int y5), .val (.int y6), .val (.int v5), .val (.int v12), .val (.int v19), .val (.int v26), .val (.int (0 : Int32)), .val (.int (3 : Int32)), .val (.int (3 : Int32)), .val (.ref b103), .unset] [(.int (0 : Int32)), (.ref b103)])) _
        refine XS.iload X103.here hx rfl (hb hby at_58) rfl ?_
        show Steps p.tables e below (T103.setTop (mkF m 60 #[.val (.int y1), .val (.int y2), .val (.int y3), .val (.int y4), .val (.int y5), .val (.int y6), .val (.int v5), .val (.int v12), .val (.int v19), .val (.int v26), .val (.int (0 : Int32)), .val (.int (3 : Int32)), .val (.int (3 : Int32)), .val (.ref b103), .unset] [(.int v5), (.int (0 : Int32)), (.ref b103)])) _
        refine XS.i2b X103.here hx rfl (hb hby at_60) rfl ?_
        show Steps p.tables e below (T103.setTop (mkF m 61 #[.val (.int y1), .val (.int y2), .val (.int y3), .val (.int y4), .val (.int y5), .val (.int y6), .val (.int v5), .val (.int v12), .val (.int v19), .val (.int v26), .val (.int (0 : Int32)), .val (.int (3 : Int32)), .val (.int (3 : Int32)), .val (.ref b103), .unset] [(.int (v5.toInt8.toInt32)), (.int (0 : Int32)), (.ref b103)])) _
        refine st112 _ ?_
        show Steps p.tables e below (T112.setTop (mkF m 62 #[.val (.int y1), .val (.int y2), .val (.int y3), .val (.int y4), .val (.int y5), .val (.int y6), .val (.int v5), .val (.int v12), .val (.int v19), .val (.int v26), .val (.int (0 : Int32)), .val (.int (3 : Int32)), .val (.int (3 : Int32)), .val (.ref b103), .unset] [])) _
        refine XS.aload X112.here hx rfl (hb hby at_62) rfl rfl ?_
        show Steps p.tables e below (T112.setTop (mkF m 64 #[.val (.int y1), .val (.int y2), .val (.int y3), .val (.int y4), .val (.int y5), .val (.int y6), .val (.int v5), .val (.int v12), .val (.int v19), .val (.int v26), .val (.int (0 : Int32)), .val (.int (3 : Int32)), .val (.int (3 : Int32)), .val (.ref b103), .unset] [(.ref b103)])) _
        refine XS.iload X112.here hx rfl (hb hby at_64) rfl ?_
        show Steps p.tables e below (T112.setTop (mkF m 66 #[.val (.int y1), .val (.int y2), .val (.int y3), .val (.int y4), .val (.int y5), .val (.int y6), .val (.int v5), .val (.int v12), .val (.int v19), .val (.int v26), .val (.int (0 : Int32)), .val (.int (3 : Int32)), .val (.int (3 : Int32)), .val (.ref b103), .unset] [(.int (0 : Int32)), (.ref b103)])) _
        refine XS.iconst X112.here hx rfl (hb hby at_66) ?_
        show Steps p.tables e below (T112.setTop (mkF m 67 #[.val (.int y1), .val (.int y2), .val (.int y3), .val (.int y4), .val (.int y5), .val (.int y6), .val (.int v5), .val (.int v12), .val (.int v19), .val (.int v26), .val (.int (0 : Int32)), .val (.int (3 : Int32)), .val (.int (3 : Int32)), .val (.ref b103), .unset] [(.int (1 : Int32)), (.int (0 : Int32)), (.ref b103)])) _
        refine XS.iadd X112.here hx rfl (hb hby at_67) rfl ?_
        show Steps p.tables e below (T112.setTop (mkF m 68 #[.val (.int y1), .val (.int y2), .val (.int y3), .val (.int y4), .val (.int y5), .val (.int y6), .val (.int v5), .val (.int v12), .val (.int v19), .val (.int v26), .val (.int (0 : Int32)), .val (.int (3 : Int32)), .val (.int (3 : Int32)), .val (.ref b103), .unset] [(.int (1 : Int32)), (.ref b103)])) _
        refine XS.iload X112.here hx rfl (hb hby at_68) rfl ?_
        show Steps p.tables e below (T112.setTop (mkF m 70 #[.val (.int y1), .val (.int y2), .val (.int y3), .val (.int y4), .val (.int y5), .val (.int y6), .val (.int v5), .val (.int v12), .val (.int v19), .val (.int v26), .val (.int (0 : Int32)), .val (.int (3 : Int32)), .val (.int (3 : Int32)), .val (.ref b103), .unset] [(.int v12), (.int (1 : Int32)), (.ref b103)])) _
        refine XS.i2b X112.here hx rfl (hb hby at_70) rfl ?_
        show Steps p.tables e below (T112.setTop (mkF m 71 #[.val (.int y1), .val (.int y2), .val (.int y3), .val (.int y4), .val (.int y5), .val (.int y6), .val (.int v5), .val (.int v12), .val (.int v19), .val (.int v26), .val (.int (0 : Int32)), .val (.int (3 : Int32)), .val (.int (3 : Int32)), .val (.ref b103), .unset] [(.int (v12.toInt8.toInt32)), (.int (1 : Int32)), (.ref b103)])) _
        refine st121 _ ?_
        show Steps p.tables e below (T121.setTop (mkF m 72 #[.val (.int y1), .val (.int y2), .val (.int y3), .val (.int y4), .val (.int y5), .val (.int y6), .val (.int v5), .val (.int v12), .val (.int v19), .val (.int v26), .val (.int (0 : Int32)), .val (.int (3 : Int32)), .val (.int (3 : Int32)), .val (.ref b103), .unset] [])) _
        refine XS.aload X121.here hx rfl (hb hby at_72) rfl rfl ?_
        show Steps p.tables e below (T121.setTop (mkF m 74 #[.val (.int y1), .val (.int y2), .val (.int y3), .val (.int y4), .val (.int y5), .val (.int y6), .val (.int v5), .val (.int v12), .val (.int v19), .val (.int v26), .val (.int (0 : Int32)), .val (.int (3 : Int32)), .val (.int (3 : Int32)), .val (.ref b103), .unset] [(.ref b103)])) _
        refine XS.iload X121.here hx rfl (hb hby at_74) rfl ?_
        show Steps p.tables e below (T121.setTop (mkF m 76 #[.val (.int y1), .val (.int y2), .val (.int y3), .val (.int y4), .val (.int y5), .val (.int y6), .val (.int v5), .val (.int v12), .val (.int v19), .val (.int v26), .val (.int (0 : Int32)), .val (.int (3 : Int32)), .val (.int (3 : Int32)), .val (.ref b103), .unset] [(.int (0 : Int32)), (.ref b103)])) _
        refine XS.iconst X121.here hx rfl (hb hby at_76) ?_
        show Steps p.tables e below (T121.setTop (mkF m 77 #[.val (.int y1), .val (.int y2), .val (.int y3), .val (.int y4), .val (.int y5), .val (.int y6), .val (.int v5), .val (.int v12), .val (.int v19), .val (.int v26), .val (.int (0 : Int32)), .val (.int (3 : Int32)), .val (.int (3 : Int32)), .val (.ref b103), .unset] [(.int (2 : Int32)), (.int (0 : Int32)), (.ref b103)])) _
        refine XS.iadd X121.here hx rfl (hb hby at_77) rfl ?_
        show Steps p.tables e below (T121.setTop (mkF m 78 #[.val (.int y1), .val (.int y2), .val (.int y3), .val (.int y4), .val (.int y5), .val (.int y6), .val (.int v5), .val (.int v12), .val (.int v19), .val (.int v26), .val (.int (0 : Int32)), .val (.int (3 : Int32)), .val (.int (3 : Int32)), .val (.ref b103), .unset] [(.int (2 : Int32)), (.ref b103)])) _
        refine XS.iload X121.here hx rfl (hb hby at_78) rfl ?_
        show Steps p.tables e below (T121.setTop (mkF m 80 #[.val (.int y1), .val (.int y2), .val (.int y3), .val (.int y4), .val (.int y5), .val (.int y6), .val (.int v5), .val (.int v12), .val (.int v19), .val (.int v26), .val (.int (0 : Int32)), .val (.int (3 : Int32)), .val (.int (3 : Int32)), .val (.ref b103), .unset] [(.int v19), (.int (2 : Int32)), (.ref b103)])) _
        refine XS.i2b X121.here hx rfl (hb hby at_80) rfl ?_
        show Steps p.tables e below (T121.setTop (mkF m 81 #[.val (.int y1), .val (.int y2), .val (.int y3), .val (.int y4), .val (.int y5), .val (.int y6), .val (.int v5), .val (.int v12), .val (.int v19), .val (.int v26), .val (.int (0 : Int32)), .val (.int (3 : Int32)), .val (.int (3 : Int32)), .val (.ref b103), .unset] [(.int (v19.toInt8.toInt32)), (.int (2 : Int32)), (.ref b103)])) _
        refine st130 _ ?_
        show Steps p.tables e below (T130.setTop (mkF m 82 #[.val (.int y1), .val (.int y2), .val (.int y3), .val (.int y4), .val (.int y5), .val (.int y6), .val (.int v5), .val (.int v12), .val (.int v19), .val (.int v26), .val (.int (0 : Int32)), .val (.int (3 : Int32)), .val (.int (3 : Int32)), .val (.ref b103), .unset] [])) _
        refine XS.aload X130.here hx rfl (hb hby at_82) rfl rfl ?_
        show Steps p.tables e below (T130.setTop (mkF m 84 #[.val (.int y1), .val (.int y2), .val (.int y3), .val (.int y4), .val (.int y5), .val (.int y6), .val (.int v5), .val (.int v12), .val (.int v19), .val (.int v26), .val (.int (0 : Int32)), .val (.int (3 : Int32)), .val (.int (3 : Int32)), .val (.ref b103), .unset] [(.ref b103)])) _
        refine XS.iload X130.here hx rfl (hb hby at_84) rfl ?_
        show Steps p.tables e below (T130.setTop (mkF m 86 #[.val (.int y1), .val (.int y2), .val (.int y3), .val (.int y4), .val (.int y5), .val (.int y6), .val (.int v5), .val (.int v12), .val (.int v19), .val (.int v26), .val (.int (0 : Int32)), .val (.int (3 : Int32)), .val (.int (3 : Int32)), .val (.ref b103), .unset] [(.int (0 : Int32)), (.ref b103)])) _
        refine XS.iconst X130.here hx rfl (hb hby at_86) ?_
        show Steps p.tables e below (T130.setTop (mkF m 87 #[.val (.int y1), .val (.int y2), .val (.int y3), .val (.int y4), .val (.int y5), .val (.int y6), .val (.int v5), .val (.int v12), .val (.int v19), .val (.int v26), .val (.int (0 : Int32)), .val (.int (3 : Int32)), .val (.int (3 : Int32)), .val (.ref b103), .unset] [(.int (3 : Int32)), (.int (0 : Int32)), (.ref b103)])) _
        refine XS.iadd X130.here hx rfl (hb hby at_87) rfl ?_
        show Steps p.tables e below (T130.setTop (mkF m 88 #[.val (.int y1), .val (.int y2), .val (.int y3), .val (.int y4), .val (.int y5), .val (.int y6), .val (.int v5), .val (.int v12), .val (.int v19), .val (.int v26), .val (.int (0 : Int32)), .val (.int (3 : Int32)), .val (.int (3 : Int32)), .val (.ref b103), .unset] [(.int (3 : Int32)), (.ref b103)])) _
        refine XS.iload X130.here hx rfl (hb hby at_88) rfl ?_
        show Steps p.tables e below (T130.setTop (mkF m 90 #[.val (.int y1), .val (.int y2), .val (.int y3), .val (.int y4), .val (.int y5), .val (.int y6), .val (.int v5), .val (.int v12), .val (.int v19), .val (.int v26), .val (.int (0 : Int32)), .val (.int (3 : Int32)), .val (.int (3 : Int32)), .val (.ref b103), .unset] [(.int v26), (.int (3 : Int32)), (.ref b103)])) _
        refine XS.i2b X130.here hx rfl (hb hby at_90) rfl ?_
        show Steps p.tables e below (T130.setTop (mkF m 91 #[.val (.int y1), .val (.int y2), .val (.int y3), .val (.int y4), .val (.int y5), .val (.int y6), .val (.int v5), .val (.int v12), .val (.int v19), .val (.int v26), .val (.int (0 : Int32)), .val (.int (3 : Int32)), .val (.int (3 : Int32)), .val (.ref b103), .unset] [(.int (v26.toInt8.toInt32)), (.int (3 : Int32)), (.ref b103)])) _
        refine st139 _ ?_
        show Steps p.tables e below (T139.setTop (mkF m 92 #[.val (.int y1), .val (.int y2), .val (.int y3), .val (.int y4), .val (.int y5), .val (.int y6), .val (.int v5), .val (.int v12), .val (.int v19), .val (.int v26), .val (.int (0 : Int32)), .val (.int (3 : Int32)), .val (.int (3 : Int32)), .val (.ref b103), .unset] [])) _
        refine XS.aload X139.here hx rfl (hb hby at_92) rfl rfl ?_
        show Steps p.tables e below (T139.setTop (mkF m 94 #[.val (.int y1), .val (.int y2), .val (.int y3), .val (.int y4), .val (.int y5), .val (.int y6), .val (.int v5), .val (.int v12), .val (.int v19), .val (.int v26), .val (.int (0 : Int32)), .val (.int (3 : Int32)), .val (.int (3 : Int32)), .val (.ref b103), .unset] [(.ref b103)])) _
        refine XS.iload X139.here hx rfl (hb hby at_94) rfl ?_
        show Steps p.tables e below (T139.setTop (mkF m 96 #[.val (.int y1), .val (.int y2), .val (.int y3), .val (.int y4), .val (.int y5), .val (.int y6), .val (.int v5), .val (.int v12), .val (.int v19), .val (.int v26), .val (.int (0 : Int32)), .val (.int (3 : Int32)), .val (.int (3 : Int32)), .val (.ref b103), .unset] [(.int (0 : Int32)), (.ref b103)])) _
        refine XS.iload X139.here hx rfl (hb hby at_96) rfl ?_
        show Steps p.tables e below (T139.setTop (mkF m 98 #[.val (.int y1), .val (.int y2), .val (.int y3), .val (.int y4), .val (.int y5), .val (.int y6), .val (.int v5), .val (.int v12), .val (.int v19), .val (.int v26), .val (.int (0 : Int32)), .val (.int (3 : Int32)), .val (.int (3 : Int32)), .val (.ref b103), .unset] [(.int (3 : Int32)), (.int (0 : Int32)), (.ref b103)])) _
        refine st147 _ ?_
        show Steps p.tables e below (T147.setTop (mkF m 101 #[.val (.int y1), .val (.int y2), .val (.int y3), .val (.int y4), .val (.int y5), .val (.int y6), .val (.int v5), .val (.int v12), .val (.int v19), .val (.int v26), .val (.int (0 : Int32)), .val (.int (3 : Int32)), .val (.int (3 : Int32)), .val (.ref b103), .unset] [(.int (own_cs 3 (((v5.toInt8.toInt32).toInt8.toInt32) &&& (255 : Int32)) (((v12.toInt8.toInt32).toInt8.toInt32) &&& (255 : Int32)) (((v19.toInt8.toInt32).toInt8.toInt32) &&& (255 : Int32)) (((v26.toInt8.toInt32).toInt8.toInt32) &&& (255 : Int32))))])) _
        refine XS.istore X147.here hx rfl (hb hby at_101) rfl (l' := #[.val (.int y1), .val (.int y2), .val (.int y3), .val (.int y4), .val (.int y5), .val (.int y6), .val (.int v5), .val (.int v12), .val (.int v19), .val (.int v26), .val (.int (0 : Int32)), .val (.int (3 : Int32)), .val (.int (3 : Int32)), .val (.ref b103), .val (.int (own_cs 3 (((v5.toInt8.toInt32).toInt8.toInt32) &&& (255 : Int32)) (((v12.toInt8.toInt32).toInt8.toInt32) &&& (255 : Int32)) (((v19.toInt8.toInt32).toInt8.toInt32) &&& (255 : Int32)) (((v26.toInt8.toInt32).toInt8.toInt32) &&& (255 : Int32))))]) rfl ?_
        exact k
      obtain ⟨_, _, ⟨T149, L149, k149, n149⟩, -, X149, ⟨Lc149, hQ149, l149, y149, z149⟩, st149⟩ := Jvm.LawKit.callS X147 hx (y := (⟨"com/example/stratafile/stratafile/io/Utf8CharacterSizePinLaw", "expected", "(IIIII)I"⟩ : MethodName)) hown (mvT hZ (hw _ (List.mem_of_getElem? (i := 11) rfl))) (mvT hZ (hw _ (List.mem_of_getElem? (i := 12) rfl))) (mvT hZ (hw _ (List.mem_of_getElem? (i := 13) rfl))) (mvT hZ (hw _ (List.mem_of_getElem? (i := 14) rfl))) (by decide) (backOf (W := 1) (own_rm2 l Z a0 hw [] v5 v12 v19 v26 (3 : Int32) h139 n0 Z139 ) hZ (hw _ (List.mem_of_getElem? (i := 14) rfl)) (hw _ (List.mem_of_getElem? (i := 13) rfl)) (by decide) (by decide)) (g := (mkF m 115 #[.val (.int y1), .val (.int y2), .val (.int y3), .val (.int y4), .val (.int y5), .val (.int y6), .val (.int v5), .val (.int v12), .val (.int v19), .val (.int v26), .val (.int (0 : Int32)), .val (.int (3 : Int32)), .val (.int (3 : Int32)), .val (.ref b103), .val (.int v101)] [(.int (3 : Int32)), (.int v26), (.int v19), (.int v12), (.int v5), (.int v101)])) rfl (by rw [hml]; rfl) (argsL := [(.int v5), (.int v12), (.int v19), (.int v26), (.int (3 : Int32))]) (rest := [(.int v101)]) (lenOf own_pd2 rfl) rfl (by show 2 * 0 + _ ≤ _; exact Nat.le_of_eq rfl) (hb hby at_115) (fun _ _ => ⟨rfl, eh147, (by decide : 1 + 0 ≤ _), (by decide : 5 + 0 ≤ _)⟩)
      dsimp only [Pt.U, Pt.locs, Pt.cells, Pt.slots] at X149 l149 y149 z149 st149 hQ149
      subst l149 y149 z149
      obtain ⟨rfl, N149q, eh149⟩ := hQ149
      have N149 := Fr.app N147 N149q
      have hd150 : v101 = (own_ex v5 v12 v19 v26 (3 : Int32)) := (by rw [hv101, hv5, hv12, hv19, hv26, own_bb, own_bb, own_bb, own_bb]; exact own_fin 3 _ _ _ _ _ (by decide))
      obtain ⟨fs, hr, hrun, hended, hW, hsame⟩ := X149.leave (v := some (.int (1 : Int32))) (fun h => by rw [Bd.returns] at h; cases h)
      refine ⟨_, _, pre148 _ ?_, hrun, hended, _, _, rfl, ?_, ⟨_, rfl⟩, hW, hsame.mono (by decide) (by decide)⟩
      · show Steps p.tables e below (T147.setTop (mkF m 103 #[.val (.int y1), .val (.int y2), .val (.int y3), .val (.int y4), .val (.int y5), .val (.int y6), .val (.int v5), .val (.int v12), .val (.int v19), .val (.int v26), .val (.int (0 : Int32)), .val (.int (3 : Int32)), .val (.int (3 : Int32)), .val (.ref b103), .val (.int v101)] [])) _
        refine XS.iload X147.here hx rfl (hb hby at_103) rfl ?_
        show Steps p.tables e below (T147.setTop (mkF m 105 #[.val (.int y1), .val (.int y2), .val (.int y3), .val (.int y4), .val (.int y5), .val (.int y6), .val (.int v5), .val (.int v12), .val (.int v19), .val (.int v26), .val (.int (0 : Int32)), .val (.int (3 : Int32)), .val (.int (3 : Int32)), .val (.ref b103), .val (.int v101)] [(.int v101)])) _
        refine XS.iload X147.here hx rfl (hb hby at_105) rfl ?_
        show Steps p.tables e below (T147.setTop (mkF m 107 #[.val (.int y1), .val (.int y2), .val (.int y3), .val (.int y4), .val (.int y5), .val (.int y6), .val (.int v5), .val (.int v12), .val (.int v19), .val (.int v26), .val (.int (0 : Int32)), .val (.int (3 : Int32)), .val (.int (3 : Int32)), .val (.ref b103), .val (.int v101)] [(.int v5), (.int v101)])) _
        refine XS.iload X147.here hx rfl (hb hby at_107) rfl ?_
        show Steps p.tables e below (T147.setTop (mkF m 109 #[.val (.int y1), .val (.int y2), .val (.int y3), .val (.int y4), .val (.int y5), .val (.int y6), .val (.int v5), .val (.int v12), .val (.int v19), .val (.int v26), .val (.int (0 : Int32)), .val (.int (3 : Int32)), .val (.int (3 : Int32)), .val (.ref b103), .val (.int v101)] [(.int v12), (.int v5), (.int v101)])) _
        refine XS.iload X147.here hx rfl (hb hby at_109) rfl ?_
        show Steps p.tables e below (T147.setTop (mkF m 111 #[.val (.int y1), .val (.int y2), .val (.int y3), .val (.int y4), .val (.int y5), .val (.int y6), .val (.int v5), .val (.int v12), .val (.int v19), .val (.int v26), .val (.int (0 : Int32)), .val (.int (3 : Int32)), .val (.int (3 : Int32)), .val (.ref b103), .val (.int v101)] [(.int v19), (.int v12), (.int v5), (.int v101)])) _
        refine XS.iload X147.here hx rfl (hb hby at_111) rfl ?_
        show Steps p.tables e below (T147.setTop (mkF m 113 #[.val (.int y1), .val (.int y2), .val (.int y3), .val (.int y4), .val (.int y5), .val (.int y6), .val (.int v5), .val (.int v12), .val (.int v19), .val (.int v26), .val (.int (0 : Int32)), .val (.int (3 : Int32)), .val (.int (3 : Int32)), .val (.ref b103), .val (.int v101)] [(.int v26), (.int v19), (.int v12), (.int v5), (.int v101)])) _
        refine XS.iload X147.here hx rfl (hb hby at_113) rfl ?_
        show Steps p.tables e below (T147.setTop (mkF m 115 #[.val (.int y1), .val (.int y2), .val (.int y3), .val (.int y4), .val (.int y5), .val (.int y6), .val (.int v5), .val (.int v12), .val (.int v19), .val (.int v26), .val (.int (0 : Int32)), .val (.int (3 : Int32)), .val (.int (3 : Int32)), .val (.ref b103), .val (.int v101)] [(.int (3 : Int32)), (.int v26), (.int v19), (.int v12), (.int v5), (.int v101)])) _
        refine st149 _ ?_
        show Steps p.tables e below (T149.setTop (mkF m 118 #[.val (.int y1), .val (.int y2), .val (.int y3), .val (.int y4), .val (.int y5), .val (.int y6), .val (.int v5), .val (.int v12), .val (.int v19), .val (.int v26), .val (.int (0 : Int32)), .val (.int (3 : Int32)), .val (.int (3 : Int32)), .val (.ref b103), .val (.int v101)] [(.int (own_ex v5 v12 v19 v26 (3 : Int32))), (.int v101)])) _
        refine XS.icmpNo X149.here hx rfl (hb hby at_118) rfl (teq hd150).2 ?_
        show Steps p.tables e below (T149.setTop (mkF m 121 #[.val (.int y1), .val (.int y2), .val (.int y3), .val (.int y4), .val (.int y5), .val (.int y6), .val (.int v5), .val (.int v12), .val (.int v19), .val (.int v26), .val (.int (0 : Int32)), .val (.int (3 : Int32)), .val (.int (3 : Int32)), .val (.ref b103), .val (.int v101)] [])) _
        refine XS.iconst X149.here hx rfl (hb hby at_121) ?_
        show Steps p.tables e below (T149.setTop (mkF m 122 #[.val (.int y1), .val (.int y2), .val (.int y3), .val (.int y4), .val (.int y5), .val (.int y6), .val (.int v5), .val (.int v12), .val (.int v19), .val (.int v26), .val (.int (0 : Int32)), .val (.int (3 : Int32)), .val (.int (3 : Int32)), .val (.ref b103), .val (.int v101)] [(.int (1 : Int32))])) _
        refine XS.goto X149.here hx rfl (pc0 := 122) (pc' := 126) rfl (hb hby at_122) (by decide) (by decide) ?_
        show Steps p.tables e below (T149.setTop (mkF m 126 #[.val (.int y1), .val (.int y2), .val (.int y3), .val (.int y4), .val (.int y5), .val (.int y6), .val (.int v5), .val (.int v12), .val (.int v19), .val (.int v26), .val (.int (0 : Int32)), .val (.int (3 : Int32)), .val (.int (3 : Int32)), .val (.ref b103), .val (.int v101)] [(.int (1 : Int32))])) _
        exact retN X149 hx (t := .boolean) Bd.returns (by simp) (hb hby at_126) hr
      · show own_Q0 Z y1 y2 y3 y4 y5 y6 wS cS wL cL wH cH h0 n0 _ T149.heap _
        rw [eh149]
        exact ⟨rfl, N149⟩
    · subst hs_v40
      obtain ⟨T151, h151, k151, X151, e151, E151, A151, st151⟩ := newP X0 hx hZ (hw _ (List.mem_of_getElem? (i := 0) rfl)) e0 (g := (mkF m 50 #[.val (.int y1), .val (.int y2), .val (.int y3), .val (.int y4), .val (.int y5), .val (.int y6), .val (.int v5), .val (.int v12), .val (.int v19), .val (.int v26), .val (.int (0 : Int32)), .val (.int (4 : Int32)), .val (.int (4 : Int32)), .unset, .unset] [(.int (5 : Int32))])) rfl (hb hby at_50) rfl (by decide) (cap := 5) (by decide) (by decide) (by decide) (by decide)
      obtain ⟨b151, g151⟩ : ∃ z, z = h0.size := ⟨_, rfl⟩
      rw [← g151] at A151 st151
      have ne_wS_b151 : wS ≠ b151 := Nat.ne_of_lt (Nat.lt_of_lt_of_le R_wS.lt (Nat.le_of_eq g151.symm))
      have ne_wL_b151 : wL ≠ b151 := Nat.ne_of_lt (Nat.lt_of_lt_of_le R_wL.lt (Nat.le_of_eq g151.symm))
      have ne_wH_b151 : wH ≠ b151 := Nat.ne_of_lt (Nat.lt_of_lt_of_le R_wH.lt (Nat.le_of_eq g151.symm))
      have g_b151 : n0 ≤ b151 := Nat.le_trans Z0 (Nat.le_of_eq g151.symm)
      have sz_b151 : h0.size ≤ b151 := Nat.le_trans K0.1 (Nat.le_of_eq g151.symm)
      have K151 : Keep h0 h151 [] := K0.ext E151
      have F152 : Sta Z h151 "com/example/stratafile/stratafile/io/Utf8" "SIZES" "[B" (.ref wS) := S_SIZES.ext E151
      have F153 : Arr Z h151 wS cS .byte := R_wS.ext E151
      have F154 : Sta Z h151 "com/example/stratafile/stratafile/io/Utf8" "SECOND_LOWEST" "[I" (.ref wL) := S_SECOND_LOWEST.ext E151
      have F155 : Arr Z h151 wL cL .int := R_wL.ext E151
      have F156 : Sta Z h151 "com/example/stratafile/stratafile/io/Utf8" "SECOND_HIGHEST" "[I" (.ref wH) := S_SECOND_HIGHEST.ext E151
      have F157 : Arr Z h151 wH cH .int := R_wH.ext E151
      have Z151 : n0 ≤ h151.size := Nat.le_trans Z0 E151.1
      have F158 : Arv Z h151 b151 k151 .byte (5 : Int32) [(.int (0 : Int32)), (.int (0 : Int32)), (.int (0 : Int32)), (.int (0 : Int32)), (.int (0 : Int32))] (.int (0 : Int32)) := (Arv.new A151 (by decide)).pad (pad_rep [] (.int (0 : Int32)) 5)
      obtain ⟨cl159, Ar159, q159, S159, M159, H159, G159⟩ := id F158
      obtain ⟨T160, h160, X160, e160, W160, st160⟩ := stB X151 hx hZ e151 Ar159 (j := (0 : Int32)) (inb_of S159 ⟨by decide, by decide⟩) (g := (mkF m 61 #[.val (.int y1), .val (.int y2), .val (.int y3), .val (.int y4), .val (.int y5), .val (.int y6), .val (.int v5), .val (.int v12), .val (.int v19), .val (.int v26), .val (.int (0 : Int32)), .val (.int (4 : Int32)), .val (.int (4 : Int32)), .val (.ref b151), .unset] [(.int (v5.toInt8.toInt32)), (.int (0 : Int32)), (.ref b151)])) rfl rfl (hb hby at_61)
      have F161 : Arv Z h160 b151 k151 .byte (5 : Int32) [(.int ((v5.toInt8.toInt32).toInt8.toInt32)), (.int (0 : Int32)), (.int (0 : Int32)), (.int (0 : Int32)), (.int (0 : Int32))] (.int (0 : Int32)) := Arv.set Ar159 q159 S159 M159 H159 G159 (fits_nar_byte _) W160 0 rfl (Nat.le_of_ble_eq_true rfl)
      have F162 : Sta Z h160 "com/example/stratafile/stratafile/io/Utf8" "SIZES" "[B" (.ref wS) := F152.wr W160
      have F163 : Sta Z h160 "com/example/stratafile/stratafile/io/Utf8" "SECOND_LOWEST" "[I" (.ref wL) := F154.wr W160
      have F164 : Sta Z h160 "com/example/stratafile/stratafile/io/Utf8" "SECOND_HIGHEST" "[I" (.ref wH) := F156.wr W160
      have N160 := Fr.snoc X160 N0 g_b151
      have Z160 : n0 ≤ h160.size := Nat.le_trans Z151 (Keep.of_wr W160).1
      have K160 : Keep h0 h160 [] := K151.wr W160 (Or.inr sz_b151)
      have F165 : Arr Z h160 wS cS .byte := R_wS.ext (own_ext K160)
      have F166 : Arr Z h160 wL cL .int := R_wL.ext (own_ext K160)
      have F167 : Arr Z h160 wH cH .int := R_wH.ext (own_ext K160)
      obtain ⟨cl168, Ar168, q168, S168, M168, H168, G168⟩ := id F161
      obtain ⟨T169, h169, X169, e169, W169, st169⟩ := stB X160 hx hZ e160 Ar168 (j := (1 : Int32)) (inb_of S168 ⟨by decide, by decide⟩) (g := (mkF m 71 #[.val (.int y1), .val (.int y2), .val (.int y3), .val (.int y4), .val (.int y5), .val (.int y6), .val (.int v5), .val (.int v12), .val (.int v19), .val (.int v26), .val (.int (0 : Int32)), .val (.int (4 : Int32)), .val (.int (4 : Int32)), .val (.ref b151), .unset] [(.int (v12.toInt8.toInt32)), (.int (1 : Int32)), (.ref b151)])) rfl rfl (hb hby at_71)
      have F170 : Arv Z h169 b151 k151 .byte (5 : Int32) [(.int ((v5.toInt8.toInt32).toInt8.toInt32)), (.int ((v12.toInt8.toInt32).toInt8.toInt32)), (.int (0 : Int32)), (.int (0 : Int32)), (.int (0 : Int32))] (.int (0 : Int32)) := Arv.set Ar168 q168 S168 M168 H168 G168 (fits_nar_byte _) W169 1 rfl (Nat.le_of_ble_eq_true rfl)
      have F171 : Sta Z h169 "com/example/stratafile/stratafile/io/Utf8" "SIZES" "[B" (.ref wS) := F162.wr W169
      have F172 : Sta Z h169 "com/example/stratafile/stratafile/io/Utf8" "SECOND_LOWEST" "[I" (.ref wL) := F163.wr W169
      have F173 : Sta Z h169 "com/example/stratafile/stratafile/io/Utf8" "SECOND_HIGHEST" "[I" (.ref wH) := F164.wr W169
      have N169 := Fr.snoc X169 N160 g_b151
      have Z169 : n0 ≤ h169.size := Nat.le_trans Z160 (Keep.of_wr W169).1
      have K169 : Keep h0 h169 [] := K160.wr W169 (Or.inr sz_b151)
      have F174 : Arr Z h169 wS cS .byte := R_wS.ext (own_ext K169)
      have F175 : Arr Z h169 wL cL .int := R_wL.ext (own_ext K169)
      have F176 : Arr Z h169 wH cH .int := R_wH.ext (own_ext K169)
      obtain ⟨cl177, Ar177, q177, S177, M177, H177, G177⟩ := id F170
      obtain ⟨T178, h178, X178, e178, W178, st178⟩ := stB X169 hx hZ e169 Ar177 (j := (2 : Int32)) (inb_of S177 ⟨by decide, by decide⟩) (g := (mkF m 81 #[.val (.int y1), .val (.int y2), .val (.int y3), .val (.int y4), .val (.int y5), .val (.int y6), .val (.int v5), .val (.int v12), .val (.int v19), .val (.int v26), .val (.int (0 : Int32)), .val (.int (4 : Int32)), .val (.int (4 : Int32)), .val (.ref b151), .unset] [(.int (v19.toInt8.toInt32)), (.int (2 : Int32)), (.ref b151)])) rfl rfl (hb hby at_81)
      have F179 : Arv Z h178 b151 k151 .byte (5 : Int32) [(.int ((v5.toInt8.toInt32).toInt8.toInt32)), (.int ((v12.toInt8.toInt32).toInt8.toInt32)), (.int ((v19.toInt8.toInt32).toInt8.toInt32)), (.int (0 : Int32)), (.int (0 : Int32))] (.int (0 : Int32)) := Arv.set Ar177 q177 S177 M177 H177 G177 (fits_nar_byte _) W178 2 rfl (Nat.le_of_ble_eq_true rfl)
      have F180 : Sta Z h178 "com/example/stratafile/stratafile/io/Utf8" "SIZES" "[B" (.ref wS) := F171.wr W178
      have F181 : Sta Z h178 "com/example/stratafile/stratafile/io/Utf8" "SECOND_LOWEST" "[I" (.ref wL) := F172.wr W178
      have F182 : Sta Z h178 "com/example/stratafile/stratafile/io/Utf8" "SECOND_HIGHEST" "[I" (.ref wH) := F173.wr W178
      have N178 := Fr.snoc X178 N169 g_b151
      have Z178 : n0 ≤ h178.size := Nat.le_trans Z169 (Keep.of_wr W178).1
      have K178 : Keep h0 h178 [] := K169.wr W178 (Or.inr sz_b151)
      have F183 : Arr Z h178 wS cS .byte := R_wS.ext (own_ext K178)
      have F184 : Arr Z h178 wL cL .int := R_wL.ext (own_ext K178)
      have F185 : Arr Z h178 wH cH .int := R_wH.ext (own_ext K178)
      obtain ⟨cl186, Ar186, q186, S186, M186, H186, G186⟩ := id F179
      obtain ⟨T187, h187, X187, e187, W187, st187⟩ := stB X178 hx hZ e178 Ar186 (j := (3 : Int32)) (inb_of S186 ⟨by decide, by decide⟩) (g := (mkF m 91 #[.val (.int y1), .val (.int y2), .val (.int y3), .val (.int y4), .val (.int y5), .val (.int y6), .val (.int v5), .val (.int v12), .val (.int v19), .val (.int v26), .val (.int (0 : Int32)), .val (.int (4 : Int32)), .val (.int (4 : Int32)), .val (.ref b151), .unset] [(.int (v26.toInt8.toInt32)), (.int (3 : Int32)), (.ref b151)])) rfl rfl (hb hby at_91)
      have F188 : Arv Z h187 b151 k151 .byte (5 : Int32) [(.int ((v5.toInt8.toInt32).toInt8.toInt32)), (.int ((v12.toInt8.toInt32).toInt8.toInt32)), (.int ((v19.toInt8.toInt32).toInt8.toInt32)), (.int ((v26.toInt8.toInt32).toInt8.toInt32)), (.int (0 : Int32))] (.int (0 : Int32)) := Arv.set Ar186 q186 S186 M186 H186 G186 (fits_nar_byte _) W187 3 rfl (Nat.le_of_ble_eq_true rfl)
      have F189 : Sta Z h187 "com/example/stratafile/stratafile/io/Utf8" "SIZES" "[B" (.ref wS) := F180.wr W187
      have F190 : Sta Z h187 "com/example/stratafile/stratafile/io/Utf8" "SECOND_LOWEST" "[I" (.ref wL) := F181.wr W187
      have F191 : Sta Z h187 "com/example/stratafile/stratafile/io/Utf8" "SECOND_HIGHEST" "[I" (.ref wH) := F182.wr W187
      have N187 := Fr.snoc X187 N178 g_b151
      have Z187 : n0 ≤ h187.size := Nat.le_trans Z178 (Keep.of_wr W187).1
      have K187 : Keep h0 h187 [] := K178.wr W187 (Or.inr sz_b151)
      have F192 : Arr Z h187 wS cS .byte := R_wS.ext (own_ext K187)
      have F193 : Arr Z h187 wL cL .int := R_wL.ext (own_ext K187)
      have F194 : Arr Z h187 wH cH .int := R_wH.ext (own_ext K187)
      obtain ⟨_, _, ⟨T195, L195, k195, n195⟩, -, X195, ⟨Lc195, hQ195, l195, y195, z195⟩, st195⟩ := Jvm.LawKit.callS X187 hx (y := (⟨"com/example/stratafile/stratafile/io/Utf8", "characterSize", "([BII)I"⟩ : MethodName)) hown (mvT hZ (hw _ (List.mem_of_getElem? (i := 1) rfl))) (mvT hZ (hw _ (List.mem_of_getElem? (i := 2) rfl))) (mvT hZ (hw _ (List.mem_of_getElem? (i := 3) rfl))) (mvT hZ (hw _ (List.mem_of_getElem? (i := 4) rfl))) (by decide) (backOf (W := 0) (own_rm1_0_4 l Z a0 hw [] b151 k151 ((v5.toInt8.toInt32).toInt8.toInt32) ((v12.toInt8.toInt32).toInt8.toInt32) ((v19.toInt8.toInt32).toInt8.toInt32) ((v26.toInt8.toInt32).toInt8.toInt32) (0 : Int32) wS cS wL cL wH cH h187 n0 Z187 F188 F189 F192 F190 F193 F191 F194 (szcS) (tacS) (szcL) (tacL) (szcH) (tacH)) hZ (hw _ (List.mem_of_getElem? (i := 4) rfl)) (hw _ (List.mem_of_getElem? (i := 3) rfl)) (by decide) (by decide)) (g := (mkF m 98 #[.val (.int y1), .val (.int y2), .val (.int y3), .val (.int y4), .val (.int y5), .val (.int y6), .val (.int v5), .val (.int v12), .val (.int v19), .val (.int v26), .val (.int (0 : Int32)), .val (.int (4 : Int32)), .val (.int (4 : Int32)), .val (.ref b151), .unset] [(.int (4 : Int32)), (.int (0 : Int32)), (.ref b151)])) rfl (by rw [hml]; rfl) (argsL := [(.ref b151), (.int (0 : Int32)), (.int (4 : Int32))]) (rest := []) (lenOf own_pd1 rfl) rfl (by show 2 * 0 + _ ≤ _; exact Nat.le_of_eq rfl) (hb hby at_98) (fun _ _ => ⟨rfl, e187, (by decide : 1 + 0 ≤ _), (by decide : 5 + 0 ≤ _)⟩)
      dsimp only [Pt.U, Pt.locs, Pt.cells, Pt.slots] at X195 l195 y195 z195 st195 hQ195
      subst l195 y195 z195
      obtain ⟨rfl, N195q, eh195⟩ := hQ195
      have N195 := Fr.app N187 N195q
      obtain ⟨v101, hv101⟩ : ∃ w : Int32, w = (own_cs 4 (((v5.toInt8.toInt32).toInt8.toInt32) &&& (255 : Int32)) (((v12.toInt8.toInt32).toInt8.toInt32) &&& (255 : Int32)) (((v19.toInt8.toInt32).toInt8.toInt32) &&& (255 : Int32)) (((v26.toInt8.toInt32).toInt8.toInt32) &&& (255 : Int32))) := ⟨_, rfl⟩
      have pre196 : ∀ t, Steps p.tables e below (T195.setTop (mkF m 103 #[.val (.int y1), .val (.int y2), .val (.int y3), .val (.int y4), .val (.int y5), .val (.int y6), .val (.int v5), .val (.int v12), .val (.int v19), .val (.int v26), .val (.int (0 : Int32)), .val (.int (4 : Int32)), .val (.int (4 : Int32)), .val (.ref b151), .val (.int v101)] [])) t → Steps p.tables e below (s₁.setTop (entryFrame m #[(.int y1), (.int y2), (.int y3), (.int y4), (.int y5), (.int y6)] maxLocals)) t := by
        intro t k
        rw [hv101] at k
        refine pre6 _ ?_
        show Steps p.tables e below (s₁.setTop (mkF m 42 #[.val (.int y1), .val (.int y2), .val (.int y3), .val (.int y4), .val (.int y5), .val (.int y6), .val (.int v5), .val (.int v12), .val (.int v19), .val (.int v26), .val (.int (0 : Int32)), .val (.int (4 : Int32)), .unset, .unset, .unset] [])) _
        refine XS.iload X0.here hx rfl (hb hby at_42) rfl ?_
        show Steps p.tables e below (s₁.setTop (mkF m 44 #[.val (.int y1), .val (.int y2), .val (.int y3), .val (.int y4), .val (.int y5), .val (.int y6), .val (.int v5), .val (.int v12), .val (.int v19), .val (.int v26), .val (.int (0 : Int32)), .val (.int (4 : Int32)), .unset, .unset, .unset] [(.int (0 : Int32))])) _
        refine XS.iload X0.here hx rfl (hb hby at_44) rfl ?_
        show Steps p.tables e below (s₁.setTop (mkF m 46 #[.val (.int y1), .val (.int y2), .val (.int y3), .val (.int y4), .val (.int y5), .val (.int y6), .val (.int v5), .val (.int v12), .val (.int v19), .val (.int v26), .val (.int (0 : Int32)), .val (.int (4 : Int32)), .unset, .unset, .unset] [(.int (4 : Int32)), (.int (0 : Int32))])) _
        refine XS.iadd X0.here hx rfl (hb hby at_46) rfl ?_
        show Steps p.tables e below (s₁.setTop (mkF m 47 #[.val (.int y1), .val (.int y2), .val (.int y3), .val (.int y4), .val (.int y5), .val (.int y6), .val (.int v5), .val (.int v12), .val (.int v19), .val (.int v26), .val (.int (0 : Int32)), .val (.int (4 : Int32)), .unset, .unset, .unset] [(.int (4 : Int32))])) _
        refine XS.istore X0.here hx rfl (hb hby at_47) rfl (l' := #[.val (.int y1), .val (.int y2), .val (.int y3), .val (.int y4), .val (.int y5), .val (.int y6), .val (.int v5), .val (.int v12), .val (.int v19), .val (.int v26), .val (.int (0 : Int32)), .val (.int (4 : Int32)), .val (.int (4 : Int32)), .unset, .unset]) rfl ?_
        show Steps p.tables e below (s₁.setTop (mkF m 49 #[.val (.int y1), .val (.int y2), .val (.int y3), .val (.int y4), .val (.int y5), .val (.int y6), .val (.int v5), .val (.int v12), .val (.int v19), .val (.int v26), .val (.int (0 : Int32)), .val (.int (4 : Int32)), .val (.int (4 : Int32)), .unset, .unset] [])) _
        refine XS.iconst X0.here hx rfl (hb hby at_49) ?_
        show Steps p.tables e below (s₁.setTop (mkF m 50 #[.val (.int y1), .val (.int y2), .val (.int y3), .val (.int y4), .val (.int y5), .val (.int y6), .val (.int v5), .val (.int v12), .val (.int v19), .val (.int v26), .val (.int (0 : Int32)), .val (.int (4 : Int32)), .val (.int (4 : Int32)), .unset, .unset] [(.int (5 : Int32))])) _
        refine st151 _ ?_
        show Steps p.tables e below (T151.setTop (mkF m 52 #[.val (.int y1), .val (.int y2), .val (.int y3), .val (.int y4), .val (.int y5), .val (.int y6), .val (.int v5), .val (.int v12), .val (.int v19), .val (.int v26), .val (.int (0 : Int32)), .val (.int (4 : Int32)), .val (.int (4 : Int32)), .unset, .unset] [(.ref b151)])) _
        refine XS.astore X151.here hx rfl (hb hby at_52) rfl rfl (l' := #[.val (.int y1), .val (.int y2), .val (.int y3), .val (.int y4), .val (.int y5), .val (.int y6), .val (.int v5), .val (.int v12), .val (.int v19), .val (.int v26), .val (.int (0 : Int32)), .val (.int (4 : Int32)), .val (.int (4 : Int32)), .val (.ref b151), .unset]) rfl ?_
        show Steps p.tables e below (T151.setTop (mkF m 54 #[.val (.int y1), .val (.int y2), .val (.int y3), .val (.int y4), .val (.int y5), .val (.int y6), .val (.int v5), .val (.int v12), .val (.int v19), .val (.int v26), .val (.int (0 : Int32)), .val (.int (4 : Int32)), .val (.int (4 : Int32)), .val (.ref b151), .unset] [])) _
        refine XS.aload X151.here hx rfl (hb hby at_54) rfl rfl ?_
        show Steps p.tables e below (T151.setTop (mkF m 56 #[.val (.int y1), .val (.int y2), .val (.int y3), .val (.int y4), .val (.int y5), .val (.int y6), .val (.int v5), .val (.int v12), .val (.int v19), .val (.int v26), .val (.int (0 : Int32)), .val (.int (4 : Int32)), .val (.int (4 : Int32)), .val (.ref b151), .unset] [(.ref b151)])) _
        refine XS.iload X151.here hx rfl (hb hby at_56) rfl ?_
        show Steps p.tables e below (T151.setTop (mkF m 58 #[.val (.int y1), .val (.int y2), .val (.int y3), .val (.int y4), .val (.int y5), .val (.int y6), .val (.int v5), .val (.int v12), .val (.int v19), .val (.int v26), .val (.int (0 : Int32)), .val (.int (4 : Int32)), .val (.int (4 : Int32)), .val (.ref b151), .unset] [(.int (0 : Int32)), (.ref b151)])) _
        refine XS.iload X151.here hx rfl (hb hby at_58) rfl ?_
        show Steps p.tables e below (T151.setTop (mkF m 60 #[.val (.int y1), .val (.int y2), .val (.int y3), .val (.int y4), .val (.int y5), .val (.int y6), .val (.int v5), .val (.int v12), .val (.int v19), .val (.int v26), .val (.int (0 : Int32)), .val (.int (4 : Int32)), .val (.int (4 : Int32)), .val (.ref b151), .unset] [(.int v5), (.int (0 : Int32)), (.ref b151)])) _
        refine XS.i2b X151.here hx rfl (hb hby at_60) rfl ?_
        show Steps p.tables e below (T151.setTop (mkF m 61 #[.val (.int y1), .val (.int y2), .val (.int y3), .val (.int y4), .val (.int y5), .val (.int y6), .val (.int v5), .val (.int v12), .val (.int v19), .val (.int v26), .val (.int (0 : Int32)), .val (.int (4 : Int32)), .val (.int (4 : Int32)), .val (.ref b151), .unset] [(.int (v5.toInt8.toInt32)), (.int (0 : Int32)), (.ref b151)])) _
        refine st160 _ ?_
        show Steps p.tables e below (T160.setTop (mkF m 62 #[.val (.int y1), .val (.int y2), .val (.int y3), .val (.int y4), .val (.int y5), .val (.int y6), .val (.int v5), .val (.int v12), .val (.int v19), .val (.int v26), .val (.int (0 : Int32)), .val (.int (4 : Int32)), .val (.int (4 : Int32)), .val (.ref b151), .unset] [])) _
        refine XS.aload X160.here hx rfl (hb hby at_62) rfl rfl ?_
        show Steps p.tables e below (T160.setTop (mkF m 64 #[.val (.int y1), .val (.int y2), .val (.int y3), .val (.int y4), .val (.int y5), .val (.int y6), .val (.int v5), .val (.int v12), .val (.int v19), .val (.int v26), .val (.int (0 : Int32)), .val (.int (4 : Int32)), .val (.int (4 : Int32)), .val (.ref b151), .unset] [(.ref b151)])) _
        refine XS.iload X160.here hx rfl (hb hby at_64) rfl ?_
        show Steps p.tables e below (T160.setTop (mkF m 66 #[.val (.int y1), .val (.int y2), .val (.int y3), .val (.int y4), .val (.int y5), .val (.int y6), .val (.int v5), .val (.int v12), .val (.int v19), .val (.int v26), .val (.int (0 : Int32)), .val (.int (4 : Int32)), .val (.int (4 : Int32)), .val (.ref b151), .unset] [(.int (0 : Int32)), (.ref b151)])) _
        refine XS.iconst X160.here hx rfl (hb hby at_66) ?_
        show Steps p.tables e below (T160.setTop (mkF m 67 #[.val (.int y1), .val (.int y2), .val (.int y3), .val (.int y4), .val (.int y5), .val (.int y6), .val (.int v5), .val (.int v12), .val (.int v19), .val (.int v26), .val (.int (0 : Int32)), .val (.int (4 : Int32)), .val (.int (4 : Int32)), .val (.ref b151), .unset] [(.int (1 : Int32)), (.int (0 : Int32)), (.ref b151)])) _
        refine XS.iadd X160.here hx rfl (hb hby at_67) rfl ?_
        show Steps p.tables e below (T160.setTop (mkF m 68 #[.val (.int y1), .val (.int y2), .val (.int y3), .val (.int y4), .val (.int y5), .val (.int y6), .val (.int v5), .val (.int v12), .val (.int v19), .val (.int v26), .val (.int (0 : Int32)), .val (.int (4 : Int32)), .val (.int (4 : Int32)), .val (.ref b151), .unset] [(.int (1 : Int32)), (.ref b151)])) _
        refine XS.iload X160.here hx rfl (hb hby at_68) rfl ?_
        show Steps p.tables e below (T160.setTop (mkF m 70 #[.val (.int y1), .val (.int y2), .val (.int y3), .val (.int y4), .val (.int y5), .val (.int y6), .val (.int v5), .val (.int v12), .val (.int v19), .val (.int v26), .val (.int (0 : Int32)), .val (.int (4 : Int32)), .val (.int (4 : Int32)), .val (.ref b151), .unset] [(.int v12), (.int (1 : Int32)), (.ref b151)])) _
        refine XS.i2b X160.here hx rfl (hb hby at_70) rfl ?_
        show Steps p.tables e below (T160.setTop (mkF m 71 #[.val (.int y1), .val (.int y2), .val (.int y3), .val (.int y4), .val (.int y5), .val (.int y6), .val (.int v5), .val (.int v12), .val (.int v19), .val (.int v26), .val (.int (0 : Int32)), .val (.int (4 : Int32)), .val (.int (4 : Int32)), .val (.ref b151), .unset] [(.int (v12.toInt8.toInt32)), (.int (1 : Int32)), (.ref b151)])) _
        refine st169 _ ?_
        show Steps p.tables e below (T169.setTop (mkF m 72 #[.val (.int y1), .val (.int y2), .val (.int y3), .val (.int y4), .val (.int y5), .val (.int y6), .val (.int v5), .val (.int v12), .val (.int v19), .val (.int v26), .val (.int (0 : Int32)), .val (.int (4 : Int32)), .val (.int (4 : Int32)), .val (.ref b151), .unset] [])) _
        refine XS.aload X169.here hx rfl (hb hby at_72) rfl rfl ?_
        show Steps p.tables e below (T169.setTop (mkF m 74 #[.val (.int y1), .val (.int y2), .val (.int y3), .val (.int y4), .val (.int y5), .val (.int y6), .val (.int v5), .val (.int v12), .val (.int v19), .val (.int v26), .val (.int (0 : Int32)), .val (.int (4 : Int32)), .val (.int (4 : Int32)), .val (.ref b151), .unset] [(.ref b151)])) _
        refine XS.iload X169.here hx rfl (hb hby at_74) rfl ?_
        show Steps p.tables e below (T169.setTop (mkF m 76 #[.val (.int y1), .val (.int y2), .val (.int y3), .val (.int y4), .val (.int y5), .val (.int y6), .val (.int v5), .val (.int v12), .val (.int v19), .val (.int v26), .val (.int (0 : Int32)), .val (.int (4 : Int32)), .val (.int (4 : Int32)), .val (.ref b151), .unset] [(.int (0 : Int32)), (.ref b151)])) _
        refine XS.iconst X169.here hx rfl (hb hby at_76) ?_
        show Steps p.tables e below (T169.setTop (mkF m 77 #[.val (.int y1), .val (.int y2), .val (.int y3), .val (.int y4), .val (.int y5), .val (.int y6), .val (.int v5), .val (.int v12), .val (.int v19), .val (.int v26), .val (.int (0 : Int32)), .val (.int (4 : Int32)), .val (.int (4 : Int32)), .val (.ref b151), .unset] [(.int (2 : Int32)), (.int (0 : Int32)), (.ref b151)])) _
        refine XS.iadd X169.here hx rfl (hb hby at_77) rfl ?_
        show Steps p.tables e below (T169.setTop (mkF m 78 #[.val (.int y1), .val (.int y2), .val (.int y3), .val (.int y4), .val (.int y5), .val (.int y6), .val (.int v5), .val (.int v12), .val (.int v19), .val (.int v26), .val (.int (0 : Int32)), .val (.int (4 : Int32)), .val (.int (4 : Int32)), .val (.ref b151), .unset] [(.int (2 : Int32)), (.ref b151)])) _
        refine XS.iload X169.here hx rfl (hb hby at_78) rfl ?_
        show Steps p.tables e below (T169.setTop (mkF m 80 #[.val (.int y1), .val (.int y2), .val (.int y3), .val (.int y4), .val (.int y5), .val (.int y6), .val (.int v5), .val (.int v12), .val (.int v19), .val (.int v26), .val (.int (0 : Int32)), .val (.int (4 : Int32)), .val (.int (4 : Int32)), .val (.ref b151), .unset] [(.int v19), (.int (2 : Int32)), (.ref b151)])) _
        refine XS.i2b X169.here hx rfl (hb hby at_80) rfl ?_
        show Steps p.tables e below (T169.setTop (mkF m 81 #[.val (.int y1), .val (.int y2), .val (.int y3), .val (.int y4), .val (.int y5), .val (.int y6), .val (.int v5), .val (.int v12), .val (.int v19), .val (.int v26), .val (.int (0 : Int32)), .val (.int (4 : Int32)), .val (.int (4 : Int32)), .val (.ref b151), .unset] [(.int (v19.toInt8.toInt32)), (.int (2 : Int32)), (.ref b151)])) _
        refine st178 _ ?_
        show Steps p.tables e below (T178.setTop (mkF m 82 #[.val (.int y1), .val (.int y2), .val (.int y3), .val (.int y4), .val (.int y5), .val (.int y6), .val (.int v5), .val (.int v12), .val (.int v19), .val (.int v26), .val (.int (0 : Int32)), .val (.int (4 : Int32)), .val (.int (4 : Int32)), .val (.ref b151), .unset] [])) _
        refine XS.aload X178.here hx rfl (hb hby at_82) rfl rfl ?_
        show Steps p.tables e below (T178.setTop (mkF m 84 #[.val (.int y1), .val (.int y2), .val (.int y3), .val (.int y4), .val (.int y5), .val (.int y6), .val (.int v5), .val (.int v12), .val (.int v19), .val (.int v26), .val (.int (0 : Int32)), .val (.int (4 : Int32)), .val (.int (4 : Int32)), .val (.ref b151), .unset] [(.ref b151)])) _
        refine XS.iload X178.here hx rfl (hb hby at_84) rfl ?_
        show Steps p.tables e below (T178.setTop (mkF m 86 #[.val (.int y1), .val (.int y2), .val (.int y3), .val (.int y4), .val (.int y5), .val (.int y6), .val (.int v5), .val (.int v12), .val (.int v19), .val (.int v26), .val (.int (0 : Int32)), .val (.int (4 : Int32)), .val (.int (4 : Int32)), .val (.ref b151), .unset] [(.int (0 : Int32)), (.ref b151)])) _
        refine XS.iconst X178.here hx rfl (hb hby at_86) ?_
        show Steps p.tables e below (T178.setTop (mkF m 87 #[.val (.int y1), .val (.int y2), .val (.int y3), .val (.int y4), .val (.int y5), .val (.int y6), .val (.int v5), .val (.int v12), .val (.int v19), .val (.int v26), .val (.int (0 : Int32)), .val (.int (4 : Int32)), .val (.int (4 : Int32)), .val (.ref b151), .unset] [(.int (3 : Int32)), (.int (0 : Int32)), (.ref b151)])) _
        refine XS.iadd X178.here hx rfl (hb hby at_87) rfl ?_
        show Steps p.tables e below (T178.setTop (mkF m 88 #[.val (.int y1), .val (.int y2), .val (.int y3), .val (.int y4), .val (.int y5), .val (.int y6), .val (.int v5), .val (.int v12), .val (.int v19), .val (.int v26), .val (.int (0 : Int32)), .val (.int (4 : Int32)), .val (.int (4 : Int32)), .val (.ref b151), .unset] [(.int (3 : Int32)), (.ref b151)])) _
        refine XS.iload X178.here hx rfl (hb hby at_88) rfl ?_
        show Steps p.tables e below (T178.setTop (mkF m 90 #[.val (.int y1), .val (.int y2), .val (.int y3), .val (.int y4), .val (.int y5), .val (.int y6), .val (.int v5), .val (.int v12), .val (.int v19), .val (.int v26), .val (.int (0 : Int32)), .val (.int (4 : Int32)), .val (.int (4 : Int32)), .val (.ref b151), .unset] [(.int v26), (.int (3 : Int32)), (.ref b151)])) _
        refine XS.i2b X178.here hx rfl (hb hby at_90) rfl ?_
        show Steps p.tables e below (T178.setTop (mkF m 91 #[.val (.int y1), .val (.int y2), .val (.int y3), .val (.int y4), .val (.int y5), .val (.int y6), .val (.int v5), .val (.int v12), .val (.int v19), .val (.int v26), .val (.int (0 : Int32)), .val (.int (4 : Int32)), .val (.int (4 : Int32)), .val (.ref b151), .unset] [(.int (v26.toInt8.toInt32)), (.int (3 : Int32)), (.ref b151)])) _
        refine st187 _ ?_
        show Steps p.tables e below (T187.setTop (mkF m 92 #[.val (.int y1), .val (.int y2), .val (.int y3), .val (.int y4), .val (.int y5), .val (.int y6), .val (.int v5), .val (.int v12), .val (.int v19), .val (.int v26), .val (.int (0 : Int32)), .val (.int (4 : Int32)), .val (.int (4 : Int32)), .val (.ref b151), .unset] [])) _
        refine XS.aload X187.here hx rfl (hb hby at_92) rfl rfl ?_
        show Steps p.tables e below (T187.setTop (mkF m 94 #[.val (.int y1), .val (.int y2), .val (.int y3), .val (.int y4), .val (.int y5), .val (.int y6), .val (.int v5), .val (.int v12), .val (.int v19), .val (.int v26), .val (.int (0 : Int32)), .val (.int (4 : Int32)), .val (.int (4 : Int32)), .val (.ref b151), .unset] [(.ref b151)])) _
        refine XS.iload X187.here hx rfl (hb hby at_94) rfl ?_
        show Steps p.tables e below (T187.setTop (mkF m 96 #[.val (.int y1), .val (.int y2), .val (.int y3), .val (.int y4), .val (.int y5), .val (.int y6), .val (.int v5), .val (.int v12), .val (.int v19), .val (.int v26), .val (.int (0 : Int32)), .val (.int (4 : Int32)), .val (.int (4 : Int32)), .val (.ref b151), .unset] [(.int (0 : Int32)), (.ref b151)])) _
        refine XS.iload X187.here hx rfl (hb hby at_96) rfl ?_
        show Steps p.tables e below (T187.setTop (mkF m 98 #[.val (.int y1), .val (.int y2), .val (.int y3), .val (.int y4), .val (.int y5), .val (.int y6), .val (.int v5), .val (.int v12), .val (.int v19), .val (.int v26), .val (.int (0 : Int32)), .val (.int (4 : Int32)), .val (.int (4 : Int32)), .val (.ref b151), .unset] [(.int (4 : Int32)), (.int (0 : Int32)), (.ref b151)])) _
        refine st195 _ ?_
        show Steps p.tables e below (T195.setTop (mkF m 101 #[.val (.int y1), .val (.int y2), .val (.int y3), .val (.int y4), .val (.int y5), .val (.int y6), .val (.int v5), .val (.int v12), .val (.int v19), .val (.int v26), .val (.int (0 : Int32)), .val (.int (4 : Int32)), .val (.int (4 : Int32)), .val (.ref b151), .unset] [(.int (own_cs 4 (((v5.toInt8.toInt32).toInt8.toInt32) &&& (255 : Int32)) (((v12.toInt8.toInt32).toInt8.toInt32) &&& (255 : Int32)) (((v19.toInt8.toInt32).toInt8.toInt32) &&& (255 : Int32)) (((v26.toInt8.toInt32).toInt8.toInt32) &&& (255 : Int32))))])) _
        refine XS.istore X195.here hx rfl (hb hby at_101) rfl (l' := #[.val (.int y1), .val (.int y2), .val (.int y3), .val (.int y4), .val (.int y5), .val (.int y6), .val (.int v5), .val (.int v12), .val (.int v19), .val (.int v26), .val (.int (0 : Int32)), .val (.int (4 : Int32)), .val (.int (4 : Int32)), .val (.ref b151), .val (.int (own_cs 4 (((v5.toInt8.toInt32).toInt8.toInt32) &&& (255 : Int32)) (((v12.toInt8.toInt32).toInt8.toInt32) &&& (255 : Int32)) (((v19.toInt8.toInt32).toInt8.toInt32) &&& (255 : Int32)) (((v26.toInt8.toInt32).toInt8.toInt32) &&& (255 : Int32))))]) rfl ?_
        exact k
      obtain ⟨_, _, ⟨T197, L197, k197, n197⟩, -, X197, ⟨Lc197, hQ197, l197, y197, z197⟩, st197⟩ := Jvm.LawKit.callS X195 hx (y := (⟨"com/example/stratafile/stratafile/io/Utf8CharacterSizePinLaw", "expected", "(IIIII)I"⟩ : MethodName)) hown (mvT hZ (hw _ (List.mem_of_getElem? (i := 11) rfl))) (mvT hZ (hw _ (List.mem_of_getElem? (i := 12) rfl))) (mvT hZ (hw _ (List.mem_of_getElem? (i := 13) rfl))) (mvT hZ (hw _ (List.mem_of_getElem? (i := 14) rfl))) (by decide) (backOf (W := 1) (own_rm2 l Z a0 hw [] v5 v12 v19 v26 (4 : Int32) h187 n0 Z187 ) hZ (hw _ (List.mem_of_getElem? (i := 14) rfl)) (hw _ (List.mem_of_getElem? (i := 13) rfl)) (by decide) (by decide)) (g := (mkF m 115 #[.val (.int y1), .val (.int y2), .val (.int y3), .val (.int y4), .val (.int y5), .val (.int y6), .val (.int v5), .val (.int v12), .val (.int v19), .val (.int v26), .val (.int (0 : Int32)), .val (.int (4 : Int32)), .val (.int (4 : Int32)), .val (.ref b151), .val (.int v101)] [(.int (4 : Int32)), (.int v26), (.int v19), (.int v12), (.int v5), (.int v101)])) rfl (by rw [hml]; rfl) (argsL := [(.int v5), (.int v12), (.int v19), (.int v26), (.int (4 : Int32))]) (rest := [(.int v101)]) (lenOf own_pd2 rfl) rfl (by show 2 * 0 + _ ≤ _; exact Nat.le_of_eq rfl) (hb hby at_115) (fun _ _ => ⟨rfl, eh195, (by decide : 1 + 0 ≤ _), (by decide : 5 + 0 ≤ _)⟩)
      dsimp only [Pt.U, Pt.locs, Pt.cells, Pt.slots] at X197 l197 y197 z197 st197 hQ197
      subst l197 y197 z197
      obtain ⟨rfl, N197q, eh197⟩ := hQ197
      have N197 := Fr.app N195 N197q
      have hd198 : v101 = (own_ex v5 v12 v19 v26 (4 : Int32)) := (by rw [hv101, hv5, hv12, hv19, hv26, own_bb, own_bb, own_bb, own_bb]; exact own_fin 4 _ _ _ _ _ (by decide))
      obtain ⟨fs, hr, hrun, hended, hW, hsame⟩ := X197.leave (v := some (.int (1 : Int32))) (fun h => by rw [Bd.returns] at h; cases h)
      refine ⟨_, _, pre196 _ ?_, hrun, hended, _, _, rfl, ?_, ⟨_, rfl⟩, hW, hsame.mono (by decide) (by decide)⟩
      · show Steps p.tables e below (T195.setTop (mkF m 103 #[.val (.int y1), .val (.int y2), .val (.int y3), .val (.int y4), .val (.int y5), .val (.int y6), .val (.int v5), .val (.int v12), .val (.int v19), .val (.int v26), .val (.int (0 : Int32)), .val (.int (4 : Int32)), .val (.int (4 : Int32)), .val (.ref b151), .val (.int v101)] [])) _
        refine XS.iload X195.here hx rfl (hb hby at_103) rfl ?_
        show Steps p.tables e below (T195.setTop (mkF m 105 #[.val (.int y1), .val (.int y2), .val (.int y3), .val (.int y4), .val (.int y5), .val (.int y6), .val (.int v5), .val (.int v12), .val (.int v19), .val (.int v26), .val (.int (0 : Int32)), .val (.int (4 : Int32)), .val (.int (4 : Int32)), .val (.ref b151), .val (.int v101)] [(.int v101)])) _
        refine XS.iload X195.here hx rfl (hb hby at_105) rfl ?_
        show Steps p.tables e below (T195.setTop (mkF m 107 #[.val (.int y1), .val (.int y2), .val (.int y3), .val (.int y4), .val (.int y5), .val (.int y6), .val (.int v5), .val (.int v12), .val (.int v19), .val (.int v26), .val (.int (0 : Int32)), .val (.int (4 : Int32)), .val (.int (4 : Int32)), .val (.ref b151), .val (.int v101)] [(.int v5), (.int v101)])) _
        refine XS.iload X195.here hx rfl (hb hby at_107) rfl ?_
        show Steps p.tables e below (T195.setTop (mkF m 109 #[.val (.int y1), .val (.int y2), .val (.int y3), .val (.int y4), .val (.int y5), .val (.int y6), .val (.int v5), .val (.int v12), .val (.int v19), .val (.int v26), .val (.int (0 : Int32)), .val (.int (4 : Int32)), .val (.int (4 : Int32)), .val (.ref b151), .val (.int v101)] [(.int v12), (.int v5), (.int v101)])) _
        refine XS.iload X195.here hx rfl (hb hby at_109) rfl ?_
        show Steps p.tables e below (T195.setTop (mkF m 111 #[.val (.int y1), .val (.int y2), .val (.int y3), .val (.int y4), .val (.int y5), .val (.int y6), .val (.int v5), .val (.int v12), .val (.int v19), .val (.int v26), .val (.int (0 : Int32)), .val (.int (4 : Int32)), .val (.int (4 : Int32)), .val (.ref b151), .val (.int v101)] [(.int v19), (.int v12), (.int v5), (.int v101)])) _
        refine XS.iload X195.here hx rfl (hb hby at_111) rfl ?_
        show Steps p.tables e below (T195.setTop (mkF m 113 #[.val (.int y1), .val (.int y2), .val (.int y3), .val (.int y4), .val (.int y5), .val (.int y6), .val (.int v5), .val (.int v12), .val (.int v19), .val (.int v26), .val (.int (0 : Int32)), .val (.int (4 : Int32)), .val (.int (4 : Int32)), .val (.ref b151), .val (.int v101)] [(.int v26), (.int v19), (.int v12), (.int v5), (.int v101)])) _
        refine XS.iload X195.here hx rfl (hb hby at_113) rfl ?_
        show Steps p.tables e below (T195.setTop (mkF m 115 #[.val (.int y1), .val (.int y2), .val (.int y3), .val (.int y4), .val (.int y5), .val (.int y6), .val (.int v5), .val (.int v12), .val (.int v19), .val (.int v26), .val (.int (0 : Int32)), .val (.int (4 : Int32)), .val (.int (4 : Int32)), .val (.ref b151), .val (.int v101)] [(.int (4 : Int32)), (.int v26), (.int v19), (.int v12), (.int v5), (.int v101)])) _
        refine st197 _ ?_
        show Steps p.tables e below (T197.setTop (mkF m 118 #[.val (.int y1), .val (.int y2), .val (.int y3), .val (.int y4), .val (.int y5), .val (.int y6), .val (.int v5), .val (.int v12), .val (.int v19), .val (.int v26), .val (.int (0 : Int32)), .val (.int (4 : Int32)), .val (.int (4 : Int32)), .val (.ref b151), .val (.int v101)] [(.int (own_ex v5 v12 v19 v26 (4 : Int32))), (.int v101)])) _
        refine XS.icmpNo X197.here hx rfl (hb hby at_118) rfl (teq hd198).2 ?_
        show Steps p.tables e below (T197.setTop (mkF m 121 #[.val (.int y1), .val (.int y2), .val (.int y3), .val (.int y4), .val (.int y5), .val (.int y6), .val (.int v5), .val (.int v12), .val (.int v19), .val (.int v26), .val (.int (0 : Int32)), .val (.int (4 : Int32)), .val (.int (4 : Int32)), .val (.ref b151), .val (.int v101)] [])) _
        refine XS.iconst X197.here hx rfl (hb hby at_121) ?_
        show Steps p.tables e below (T197.setTop (mkF m 122 #[.val (.int y1), .val (.int y2), .val (.int y3), .val (.int y4), .val (.int y5), .val (.int y6), .val (.int v5), .val (.int v12), .val (.int v19), .val (.int v26), .val (.int (0 : Int32)), .val (.int (4 : Int32)), .val (.int (4 : Int32)), .val (.ref b151), .val (.int v101)] [(.int (1 : Int32))])) _
        refine XS.goto X197.here hx rfl (pc0 := 122) (pc' := 126) rfl (hb hby at_122) (by decide) (by decide) ?_
        show Steps p.tables e below (T197.setTop (mkF m 126 #[.val (.int y1), .val (.int y2), .val (.int y3), .val (.int y4), .val (.int y5), .val (.int y6), .val (.int v5), .val (.int v12), .val (.int v19), .val (.int v26), .val (.int (0 : Int32)), .val (.int (4 : Int32)), .val (.int (4 : Int32)), .val (.ref b151), .val (.int v101)] [(.int (1 : Int32))])) _
        exact retN X197 hx (t := .boolean) Bd.returns (by simp) (hb hby at_126) hr
      · show own_Q0 Z y1 y2 y3 y4 y5 y6 wS cS wL cL wH cH h0 n0 _ T197.heap _
        rw [eh197]
        exact ⟨rfl, N197⟩
  · subst hs_v32
    obtain ⟨v40, hv40⟩ : ∃ w : Int32, w = ((1 : Int32) + (y5 &&& (3 : Int32))) := ⟨_, rfl⟩
    have pre199 : ∀ t, Steps p.tables e below (s₁.setTop (mkF m 42 #[.val (.int y1), .val (.int y2), .val (.int y3), .val (.int y4), .val (.int y5), .val (.int y6), .val (.int v5), .val (.int v12), .val (.int v19), .val (.int v26), .val (.int (1 : Int32)), .val (.int v40), .unset, .unset, .unset] [])) t → Steps p.tables e below (s₁.setTop (entryFrame m #[(.int y1), (.int y2), (.int y3), (.int y4), (.int y5), (.int y6)] maxLocals)) t := by
      intro t k
      rw [hv40] at k
      refine pre5 _ ?_
      show Steps p.tables e below (s₁.setTop (mkF m 34 #[.val (.int y1), .val (.int y2), .val (.int y3), .val (.int y4), .val (.int y5), .val (.int y6), .val (.int v5), .val (.int v12), .val (.int v19), .val (.int v26), .val (.int (1 : Int32)), .unset, .unset, .unset, .unset] [])) _
      refine XS.iconst X0.here hx rfl (hb hby at_34) ?_
      show Steps p.tables e below (s₁.setTop (mkF m 35 #[.val (.int y1), .val (.int y2), .val (.int y3), .val (.int y4), .val (.int y5), .val (.int y6), .val (.int v5), .val (.int v12), .val (.int v19), .val (.int v26), .val (.int (1 : Int32)), .unset, .unset, .unset, .unset] [(.int (1 : Int32))])) _
      refine XS.iload X0.here hx rfl (hb hby at_35) rfl ?_
      show Steps p.tables e below (s₁.setTop (mkF m 37 #[.val (.int y1), .val (.int y2), .val (.int y3), .val (.int y4), .val (.int y5), .val (.int y6), .val (.int v5), .val (.int v12), .val (.int v19), .val (.int v26), .val (.int (1 : Int32)), .unset, .unset, .unset, .unset] [(.int y5), (.int (1 : Int32))])) _
      refine XS.iconst X0.here hx rfl (hb hby at_37) ?_
      show Steps p.tables e below (s₁.setTop (mkF m 38 #[.val (.int y1), .val (.int y2), .val (.int y3), .val (.int y4), .val (.int y5), .val (.int y6), .val (.int v5), .val (.int v12), .val (.int v19), .val (.int v26), .val (.int (1 : Int32)), .unset, .unset, .unset, .unset] [(.int (3 : Int32)), (.int y5), (.int (1 : Int32))])) _
      refine XS.iand X0.here hx rfl (hb hby at_38) rfl ?_
      show Steps p.tables e below (s₁.setTop (mkF m 39 #[.val (.int y1), .val (.int y2), .val (.int y3), .val (.int y4), .val (.int y5), .val (.int y6), .val (.int v5), .val (.int v12), .val (.int v19), .val (.int v26), .val (.int (1 : Int32)), .unset, .unset, .unset, .unset] [(.int (y5 &&& (3 : Int32))), (.int (1 : Int32))])) _
      refine XS.iadd X0.here hx rfl (hb hby at_39) rfl ?_
      show Steps p.tables e below (s₁.setTop (mkF m 40 #[.val (.int y1), .val (.int y2), .val (.int y3), .val (.int y4), .val (.int y5), .val (.int y6), .val (.int v5), .val (.int v12), .val (.int v19), .val (.int v26), .val (.int (1 : Int32)), .unset, .unset, .unset, .unset] [(.int ((1 : Int32) + (y5 &&& (3 : Int32))))])) _
      refine XS.istore X0.here hx rfl (hb hby at_40) rfl (l' := #[.val (.int y1), .val (.int y2), .val (.int y3), .val (.int y4), .val (.int y5), .val (.int y6), .val (.int v5), .val (.int v12), .val (.int v19), .val (.int v26), .val (.int (1 : Int32)), .val (.int ((1 : Int32) + (y5 &&& (3 : Int32)))), .unset, .unset, .unset]) rfl ?_
      exact k
    rcases (hv40 ▸ own_four y5 : v40 = (1 : Int32) ∨ v40 = (2 : Int32) ∨ v40 = (3 : Int32) ∨ v40 = (4 : Int32)) with hs_v40 | hs_v40 | hs_v40 | hs_v40
    · subst hs_v40
      obtain ⟨T200, h200, k200, X200, e200, E200, A200, st200⟩ := newP X0 hx hZ (hw _ (List.mem_of_getElem? (i := 0) rfl)) e0 (g := (mkF m 50 #[.val (.int y1), .val (.int y2), .val (.int y3), .val (.int y4), .val (.int y5), .val (.int y6), .val (.int v5), .val (.int v12), .val (.int v19), .val (.int v26), .val (.int (1 : Int32)), .val (.int (1 : Int32)), .val (.int (2 : Int32)), .unset, .unset] [(.int (5 : Int32))])) rfl (hb hby at_50) rfl (by decide) (cap := 5) (by decide) (by decide) (by decide) (by decide)
      obtain ⟨b200, g200⟩ : ∃ z, z = h0.size := ⟨_, rfl⟩
      rw [← g200] at A200 st200
      have ne_wS_b200 : wS ≠ b200 := Nat.ne_of_lt (Nat.lt_of_lt_of_le R_wS.lt (Nat.le_of_eq g200.symm))
      have ne_wL_b200 : wL ≠ b200 := Nat.ne_of_lt (Nat.lt_of_lt_of_le R_wL.lt (Nat.le_of_eq g200.symm))
      have ne_wH_b200 : wH ≠ b200 := Nat.ne_of_lt (Nat.lt_of_lt_of_le R_wH.lt (Nat.le_of_eq g200.symm))
      have g_b200 : n0 ≤ b200 := Nat.le_trans Z0 (Nat.le_of_eq g200.symm)
      have sz_b200 : h0.size ≤ b200 := Nat.le_trans K0.1 (Nat.le_of_eq g200.symm)
      have K200 : Keep h0 h200 [] := K0.ext E200
      have F201 : Sta Z h200 "com/example/stratafile/stratafile/io/Utf8" "SIZES" "[B" (.ref wS) := S_SIZES.ext E200
      have F202 : Arr Z h200 wS cS .byte := R_wS.ext E200
      have F203 : Sta Z h200 "com/example/stratafile/stratafile/io/Utf8" "SECOND_LOWEST" "[I" (.ref wL) := S_SECOND_LOWEST.ext E200
      have F204 : Arr Z h200 wL cL .int := R_wL.ext E200
      have F205 : Sta Z h200 "com/example/stratafile/stratafile/io/Utf8" "SECOND_HIGHEST" "[I" (.ref wH) := S_SECOND_HIGHEST.ext E200
      have F206 : Arr Z h200 wH cH .int := R_wH.ext E200
      have Z200 : n0 ≤ h200.size := Nat.le_trans Z0 E200.1
      have F207 : Arv Z h200 b200 k200 .byte (5 : Int32) [(.int (0 : Int32)), (.int (0 : Int32)), (.int (0 : Int32)), (.int (0 : Int32)), (.int (0 : Int32))] (.int (0 : Int32)) := (Arv.new A200 (by decide)).pad (pad_rep [] (.int (0 : Int32)) 5)
      obtain ⟨cl208, Ar208, q208, S208, M208, H208, G208⟩ := id F207
      obtain ⟨T209, h209, X209, e209, W209, st209⟩ := stB X200 hx hZ e200 Ar208 (j := (1 : Int32)) (inb_of S208 ⟨by decide, by decide⟩) (g := (mkF m 61 #[.val (.int y1), .val (.int y2), .val (.int y3), .val (.int y4), .val (.int y5), .val (.int y6), .val (.int v5), .val (.int v12), .val (.int v19), .val (.int v26), .val (.int (1 : Int32)), .val (.int (1 : Int32)), .val (.int (2 : Int32)), .val (.ref b200), .unset] [(.int (v5.toInt8.toInt32)), (.int (1 : Int32)), (.ref b200)])) rfl rfl (hb hby at_61)
      have F210 : Arv Z h209 b200 k200 .byte (5 : Int32) [(.int (0 : Int32)), (.int ((v5.toInt8.toInt32).toInt8.toInt32)), (.int (0 : Int32)), (.int (0 : Int32)), (.int (0 : Int32))] (.int (0 : Int32)) := Arv.set Ar208 q208 S208 M208 H208 G208 (fits_nar_byte _) W209 1 rfl (Nat.le_of_ble_eq_true rfl)
      have F211 : Sta Z h209 "com/example/stratafile/stratafile/io/Utf8" "SIZES" "[B" (.ref wS) := F201.wr W209
      have F212 : Sta Z h209 "com/example/stratafile/stratafile/io/Utf8" "SECOND_LOWEST" "[I" (.ref wL) := F203.wr W209
      have F213 : Sta Z h209 "com/example/stratafile/stratafile/io/Utf8" "SECOND_HIGHEST" "[I" (.ref wH) := F205.wr W209
      have N209 := Fr.snoc X209 N0 g_b200
      have Z209 : n0 ≤ h209.size := Nat.le_trans Z200 (Keep.of_wr W209).1
      have K209 : Keep h0 h209 [] := K200.wr W209 (Or.inr sz_b200)
      have F214 : Arr Z h209 wS cS .byte := R_wS.ext (own_ext K209)
      have F215 : Arr Z h209 wL cL .int := R_wL.ext (own_ext K209)
      have F216 : Arr Z h209 wH cH .int := R_wH.ext (own_ext K209)
      obtain ⟨cl217, Ar217, q217, S217, M217, H217, G217⟩ := id F210
      obtain ⟨T218, h218, X218, e218, W218, st218⟩ := stB X209 hx hZ e209 Ar217 (j := (2 : Int32)) (inb_of S217 ⟨by decide, by decide⟩) (g := (mkF m 71 #[.val (.int y1), .val (.int y2), .val (.int y3), .val (.int y4), .val (.int y5), .val (.int y6), .val (.int v5), .val (.int v12), .val (.int v19), .val (.int v26), .val (.int (1 : Int32)), .val (.int (1 : Int32)), .val (.int (2 : Int32)), .val (.ref b200), .unset] [(.int (v12.toInt8.toInt32)), (.int (2 : Int32)), (.ref b200)])) rfl rfl (hb hby at_71)
      have F219 : Arv Z h218 b200 k200 .byte (5 : Int32) [(.int (0 : Int32)), (.int ((v5.toInt8.toInt32).toInt8.toInt32)), (.int ((v12.toInt8.toInt32).toInt8.toInt32)), (.int (0 : Int32)), (.int (0 : Int32))] (.int (0 : Int32)) := Arv.set Ar217 q217 S217 M217 H217 G217 (fits_nar_byte _) W218 2 rfl (Nat.le_of_ble_eq_true rfl)
      have F220 : Sta Z h218 "com/example/stratafile/stratafile/io/Utf8" "SIZES" "[B" (.ref wS) := F211.wr W218
      have F221 : Sta Z h218 "com/example/stratafile/stratafile/io/Utf8" "SECOND_LOWEST" "[I" (.ref wL) := F212.wr W218
      have F222 : Sta Z h218 "com/example/stratafile/stratafile/io/Utf8" "SECOND_HIGHEST" "[I" (.ref wH) := F213.wr W218
      have N218 := Fr.snoc X218 N209 g_b200
      have Z218 : n0 ≤ h218.size := Nat.le_trans Z209 (Keep.of_wr W218).1
      have K218 : Keep h0 h218 [] := K209.wr W218 (Or.inr sz_b200)
      have F223 : Arr Z h218 wS cS .byte := R_wS.ext (own_ext K218)
      have F224 : Arr Z h218 wL cL .int := R_wL.ext (own_ext K218)
      have F225 : Arr Z h218 wH cH .int := R_wH.ext (own_ext K218)
      obtain ⟨cl226, Ar226, q226, S226, M226, H226, G226⟩ := id F219
      obtain ⟨T227, h227, X227, e227, W227, st227⟩ := stB X218 hx hZ e218 Ar226 (j := (3 : Int32)) (inb_of S226 ⟨by decide, by decide⟩) (g := (mkF m 81 #[.val (.int y1), .val (.int y2), .val (.int y3), .val (.int y4), .val (.int y5), .val (.int y6), .val (.int v5), .val (.int v12), .val (.int v19), .val (.int v26), .val (.int (1 : Int32)), .val (.int (1 : Int32)), .val (.int (2 : Int32)), .val (.ref b200), .unset] [(.int (v19.toInt8.toInt32)), (.int (3 : Int32)), (.ref b200)])) rfl rfl (hb hby at_81)
      have F228 : Arv Z h227 b200 k200 .byte (5 : Int32) [(.int (0 : Int32)), (.int ((v5.toInt8.toInt32).toInt8.toInt32)), (.int ((v12.toInt8.toInt32).toInt8.toInt32)), (.int ((v19.toInt8.toInt32).toInt8.toInt32)), (.int (0 : Int32))] (.int (0 : Int32)) := Arv.set Ar226 q226 S226 M226 H226 G226 (fits_nar_byte _) W227 3 rfl (Nat.le_of_ble_eq_true rfl)
      have F229 : Sta Z h227 "com/example/stratafile/stratafile/io/Utf8" "SIZES" "[B" (.ref wS) := F220.wr W227
      have F230 : Sta Z h227 "com/example/stratafile/stratafile/io/Utf8" "SECOND_LOWEST" "[I" (.ref wL) := F221.wr W227
      have F231 : Sta Z h227 "com/example/stratafile/stratafile/io/Utf8" "SECOND_HIGHEST" "[I" (.ref wH) := F222.wr W227
      have N227 := Fr.snoc X227 N218 g_b200
      have Z227 : n0 ≤ h227.size := Nat.le_trans Z218 (Keep.of_wr W227).1
      have K227 : Keep h0 h227 [] := K218.wr W227 (Or.inr sz_b200)
      have F232 : Arr Z h227 wS cS .byte := R_wS.ext (own_ext K227)
      have F233 : Arr Z h227 wL cL .int := R_wL.ext (own_ext K227)
      have F234 : Arr Z h227 wH cH .int := R_wH.ext (own_ext K227)
      obtain ⟨cl235, Ar235, q235, S235, M235, H235, G235⟩ := id F228
      obtain ⟨T236, h236, X236, e236, W236, st236⟩ := stB X227 hx hZ e227 Ar235 (j := (4 : Int32)) (inb_of S235 ⟨by decide, by decide⟩) (g := (mkF m 91 #[.val (.int y1), .val (.int y2), .val (.int y3), .val (.int y4), .val (.int y5), .val (.int y6), .val (.int v5), .val (.int v12), .val (.int v19), .val (.int v26), .val (.int (1 : Int32)), .val (.int (1 : Int32)), .val (.int (2 : Int32)), .val (.ref b200), .unset] [(.int (v26.toInt8.toInt32)), (.int (4 : Int32)), (.ref b200)])) rfl rfl (hb hby at_91)
      have F237 : Arv Z h236 b200 k200 .byte (5 : Int32) [(.int (0 : Int32)), (.int ((v5.toInt8.toInt32).toInt8.toInt32)), (.int ((v12.toInt8.toInt32).toInt8.toInt32)), (.int ((v19.toInt8.toInt32).toInt8.toInt32)), (.int ((v26.toInt8.toInt32).toInt8.toInt32))] (.int (0 : Int32)) := Arv.set Ar235 q235 S235 M235 H235 G235 (fits_nar_byte _) W236 4 rfl (Nat.le_of_ble_eq_true rfl)
      have F238 : Sta Z h236 "com/example/stratafile/stratafile/io/Utf8" "SIZES" "[B" (.ref wS) := F229.wr W236
      have F239 : Sta Z h236 "com/example/stratafile/stratafile/io/Utf8" "SECOND_LOWEST" "[I" (.ref wL) := F230.wr W236
      have F240 : Sta Z h236 "com/example/stratafile/stratafile/io/Utf8" "SECOND_HIGHEST" "[I" (.ref wH) := F231.wr W236
      have N236 := Fr.snoc X236 N227 g_b200
      have Z236 : n0 ≤ h236.size := Nat.le_trans Z227 (Keep.of_wr W236).1
      have K236 : Keep h0 h236 [] := K227.wr W236 (Or.inr sz_b200)
      have F241 : Arr Z h236 wS cS .byte := R_wS.ext (own_ext K236)
      have F242 : Arr Z h236 wL cL .int := R_wL.ext (own_ext K236)
      have F243 : Arr Z h236 wH cH .int := R_wH.ext (own_ext K236)
      obtain ⟨_, _, ⟨T244, L244, k244, n244⟩, -, X244, ⟨Lc244, hQ244, l244, y244, z244⟩, st244⟩ := Jvm.LawKit.callS X236 hx (y := (⟨"com/example/stratafile/stratafile/io/Utf8", "characterSize", "([BII)I"⟩ : MethodName)) hown (mvT hZ (hw _ (List.mem_of_getElem? (i := 1) rfl))) (mvT hZ (hw _ (List.mem_of_getElem? (i := 2) rfl))) (mvT hZ (hw _ (List.mem_of_getElem? (i := 3) rfl))) (mvT hZ (hw _ (List.mem_of_getElem? (i := 4) rfl))) (by decide) (backOf (W := 0) (own_rm1_1_1 l Z a0 hw [] b200 k200 (0 : Int32) ((v5.toInt8.toInt32).toInt8.toInt32) ((v12.toInt8.toInt32).toInt8.toInt32) ((v19.toInt8.toInt32).toInt8.toInt32) ((v26.toInt8.toInt32).toInt8.toInt32) wS cS wL cL wH cH h236 n0 Z236 F237 F238 F241 F239 F242 F240 F243 (szcS) (tacS) (szcL) (tacL) (szcH) (tacH)) hZ (hw _ (List.mem_of_getElem? (i := 4) rfl)) (hw _ (List.mem_of_getElem? (i := 3) rfl)) (by decide) (by decide)) (g := (mkF m 98 #[.val (.int y1), .val (.int y2), .val (.int y3), .val (.int y4), .val (.int y5), .val (.int y6), .val (.int v5), .val (.int v12), .val (.int v19), .val (.int v26), .val (.int (1 : Int32)), .val (.int (1 : Int32)), .val (.int (2 : Int32)), .val (.ref b200), .unset] [(.int (2 : Int32)), (.int (1 : Int32)), (.ref b200)])) rfl (by rw [hml]; rfl) (argsL := [(.ref b200), (.int (1 : Int32)), (.int (2 : Int32))]) (rest := []) (lenOf own_pd1 rfl) rfl (by show 2 * 0 + _ ≤ _; exact Nat.le_of_eq rfl) (hb hby at_98) (fun _ _ => ⟨rfl, e236, (by decide : 1 + 0 ≤ _), (by decide : 5 + 0 ≤ _)⟩)
      dsimp only [Pt.U, Pt.locs, Pt.cells, Pt.slots] at X244 l244 y244 z244 st244 hQ244
      subst l244 y244 z244
      obtain ⟨rfl, N244q, eh244⟩ := hQ244
      have N244 := Fr.app N236 N244q
      obtain ⟨v101, hv101⟩ : ∃ w : Int32, w = (own_cs 1 (((v5.toInt8.toInt32).toInt8.toInt32) &&& (255 : Int32)) (((v12.toInt8.toInt32).toInt8.toInt32) &&& (255 : Int32)) (((v19.toInt8.toInt32).toInt8.toInt32) &&& (255 : Int32)) (((v26.toInt8.toInt32).toInt8.toInt32) &&& (255 : Int32))) := ⟨_, rfl⟩
      have pre245 : ∀ t, Steps p.tables e below (T244.setTop (mkF m 103 #[.val (.int y1), .val (.int y2), .val (.int y3), .val (.int y4), .val (.int y5), .val (.int y6), .val (.int v5), .val (.int v12), .val (.int v19), .val (.int v26), .val (.int (1 : Int32)), .val (.int (1 : Int32)), .val (.int (2 : Int32)), .val (.ref b200), .val (.int v101)] [])) t → Steps p.tables e below (s₁.setTop (entryFrame m #[(.int y1), (.int y2), (.int y3), (.int y4), (.int y5), (.int y6)] maxLocals)) t := by
        intro t k
        rw [hv101] at k
        refine pre199 _ ?_
        show Steps p.tables e below (s₁.setTop (mkF m 42 #[.val (.int y1), .val (.int y2), .val (.int y3), .val (.int y4), .val (.int y5), .val (.int y6), .val (.int v5), .val (.int v12), .val (.int v19), .val (.int v26), .val (.int (1 : Int32)), .val (.int (1 : Int32)), .unset, .unset, .unset] [])) _
        refine XS.iload X0.here hx rfl (hb hby at_42) rfl ?_
        show Steps p.tables e below (s₁.setTop (mkF m 44 #[.val (.int y1), .val (.int y2), .val (.int y3), .val (.int y4), .val (.int y5), .val (.int y6), .val (.int v5), .val (.int v12), .val (.int v19), .val (.int v26), .val (.int (1 : Int32)), .val (.int (1 : Int32)), .unset, .unset, .unset] [(.int (1 : Int32))])) _
        refine XS.iload X0.here hx rfl (hb hby at_44) rfl ?_
        show Steps p.tables e below (s₁.setTop (mkF m 46 #[.val (.int y1), .val (.int y2), .val (.int y3), .val (.int y4), .val (.int y5), .val (.int y6), .val (.int v5), .val (.int v12), .val (.int v19), .val (.int v26), .val (.int (1 : Int32)), .val (.int (1 : Int32)), .unset, .unset, .unset] [(.int (1 : Int32)), (.int (1 : Int32))])) _
        refine XS.iadd X0.here hx rfl (hb hby at_46) rfl ?_
        show Steps p.tables e below (s₁.setTop (mkF m 47 #[.val (.int y1), .val (.int y2), .val (.int y3), .val (.int y4), .val (.int y5), .val (.int y6), .val (.int v5), .val (.int v12), .val (.int v19), .val (.int v26), .val (.int (1 : Int32)), .val (.int (1 : Int32)), .unset, .unset, .unset] [(.int (2 : Int32))])) _
        refine XS.istore X0.here hx rfl (hb hby at_47) rfl (l' := #[.val (.int y1), .val (.int y2), .val (.int y3), .val (.int y4), .val (.int y5), .val (.int y6), .val (.int v5), .val (.int v12), .val (.int v19), .val (.int v26), .val (.int (1 : Int32)), .val (.int (1 : Int32)), .val (.int (2 : Int32)), .unset, .unset]) rfl ?_
        show Steps p.tables e below (s₁.setTop (mkF m 49 #[.val (.int y1), .val (.int y2), .val (.int y3), .val (.int y4), .val (.int y5), .val (.int y6), .val (.int v5), .val (.int v12), .val (.int v19), .val (.int v26), .val (.int (1 : Int32)), .val (.int (1 : Int32)), .val (.int (2 : Int32)), .unset, .unset] [])) _
        refine XS.iconst X0.here hx rfl (hb hby at_49) ?_
        show Steps p.tables e below (s₁.setTop (mkF m 50 #[.val (.int y1), .val (.int y2), .val (.int y3), .val (.int y4), .val (.int y5), .val (.int y6), .val (.int v5), .val (.int v12), .val (.int v19), .val (.int v26), .val (.int (1 : Int32)), .val (.int (1 : Int32)), .val (.int (2 : Int32)), .unset, .unset] [(.int (5 : Int32))])) _
        refine st200 _ ?_
        show Steps p.tables e below (T200.setTop (mkF m 52 #[.val (.int y1), .val (.int y2), .val (.int y3), .val (.int y4), .val (.int y5), .val (.int y6), .val (.int v5), .val (.int v12), .val (.int v19), .val (.int v26), .val (.int (1 : Int32)), .val (.int (1 : Int32)), .val (.int (2 : Int32)), .unset, .unset] [(.ref b200)])) _
        refine XS.astore X200.here hx rfl (hb hby at_52) rfl rfl (l' := #[.val (.int y1), .val (.int y2), .val (.int y3), .val (.int y4), .val (.int y5), .val (.int y6), .val (.int v5), .val (.int v12), .val (.int v19), .val (.int v26), .val (.int (1 : Int32)), .val (.int (1 : Int32)), .val (.int (2 : Int32)), .val (.ref b200), .unset]) rfl ?_
        show Steps p.tables e below (T200.setTop (mkF m 54 #[.val (.int y1), .val (.int y2), .val (.int y3), .val (.int y4), .val (.int y5), .val (.int y6), .val (.int v5), .val (.int v12), .val (.int v19), .val (.int v26), .val (.int (1 : Int32)), .val (.int (1 : Int32)), .val (.int (2 : Int32)), .val (.ref b200), .unset] [])) _
        refine XS.aload X200.here hx rfl (hb hby at_54) rfl rfl ?_
        show Steps p.tables e below (T200.setTop (mkF m 56 #[.val (.int y1), .val (.int y2), .val (.int y3), .val (.int y4), .val (.int y5), .val (.int y6), .val (.int v5), .val (.int v12), .val (.int v19), .val (.int v26), .val (.int (1 : Int32)), .val (.int (1 : Int32)), .val (.int (2 : Int32)), .val (.ref b200), .unset] [(.ref b200)])) _
        refine XS.iload X200.here hx rfl (hb hby at_56) rfl ?_
        show Steps p.tables e below (T200.setTop (mkF m 58 #[.val (.int y1), .val (.int y2), .val (.int y3), .val (.int y4), .val (.int y5), .val (.int y6), .val (.int v5), .val (.int v12), .val (.int v19), .val (.int v26), .val (.int (1 : Int32)), .val (.int (1 : Int32)), .val (.int (2 : Int32)), .val (.ref b200), .unset] [(.int (1 : Int32)), (.ref b200)])) _
        refine XS.iload X200.here hx rfl (hb hby at_58) rfl ?_
        show Steps p.tables e below (T200.setTop (mkF m 60 #[.val (.int y1), .val (.int y2), .val (.int y3), .val (.int y4), .val (.int y5), .val (.int y6), .val (.int v5), .val (.int v12), .val (.int v19), .val (.int v26), .val (.int (1 : Int32)), .val (.int (1 : Int32)), .val (.int (2 : Int32)), .val (.ref b200), .unset] [(.int v5), (.int (1 : Int32)), (.ref b200)])) _
        refine XS.i2b X200.here hx rfl (hb hby at_60) rfl ?_
        show Steps p.tables e below (T200.setTop (mkF m 61 #[.val (.int y1), .val (.int y2), .val (.int y3), .val (.int y4), .val (.int y5), .val (.int y6), .val (.int v5), .val (.int v12), .val (.int v19), .val (.int v26), .val (.int (1 : Int32)), .val (.int (1 : Int32)), .val (.int (2 : Int32)), .val (.ref b200), .unset] [(.int (v5.toInt8.toInt32)), (.int (1 : Int32)), (.ref b200)])) _
        refine st209 _ ?_
        show Steps p.tables e below (T209.setTop (mkF m 62 #[.val (.int y1), .val (.int y2), .val (.int y3), .val (.int y4), .val (.int y5), .val (.int y6), .val (.int v5), .val (.int v12), .val (.int v19), .val (.int v26), .val (.int (1 : Int32)), .val (.int (1 : Int32)), .val (.int (2 : Int32)), .val (.ref b200), .unset] [])) _
        refine XS.aload X209.here hx rfl (hb hby at_62) rfl rfl ?_
        show Steps p.tables e below (T209.setTop (mkF m 64 #[.val (.int y1), .val (.int y2), .val (.int y3), .val (.int y4), .val (.int y5), .val (.int y6), .val (.int v5), .val (.int v12), .val (.int v19), .val (.int v26), .val (.int (1 : Int32)), .val (.int (1 : Int32)), .val (.int (2 : Int32)), .val (.ref b200), .unset] [(.ref b200)])) _
        refine XS.iload X209.here hx rfl (hb hby at_64) rfl ?_
        show Steps p.tables e below (T209.setTop (mkF m 66 #[.val (.int y1), .val (.int y2), .val (.int y3), .val (.int y4), .val (.int y5), .val (.int y6), .val (.int v5), .val (.int v12), .val (.int v19), .val (.int v26), .val (.int (1 : Int32)), .val (.int (1 : Int32)), .val (.int (2 : Int32)), .val (.ref b200), .unset] [(.int (1 : Int32)), (.ref b200)])) _
        refine XS.iconst X209.here hx rfl (hb hby at_66) ?_
        show Steps p.tables e below (T209.setTop (mkF m 67 #[.val (.int y1), .val (.int y2), .val (.int y3), .val (.int y4), .val (.int y5), .val (.int y6), .val (.int v5), .val (.int v12), .val (.int v19), .val (.int v26), .val (.int (1 : Int32)), .val (.int (1 : Int32)), .val (.int (2 : Int32)), .val (.ref b200), .unset] [(.int (1 : Int32)), (.int (1 : Int32)), (.ref b200)])) _
        refine XS.iadd X209.here hx rfl (hb hby at_67) rfl ?_
        show Steps p.tables e below (T209.setTop (mkF m 68 #[.val (.int y1), .val (.int y2), .val (.int y3), .val (.int y4), .val (.int y5), .val (.int y6), .val (.int v5), .val (.int v12), .val (.int v19), .val (.int v26), .val (.int (1 : Int32)), .val (.int (1 : Int32)), .val (.int (2 : Int32)), .val (.ref b200), .unset] [(.int (2 : Int32)), (.ref b200)])) _
        refine XS.iload X209.here hx rfl (hb hby at_68) rfl ?_
        show Steps p.tables e below (T209.setTop (mkF m 70 #[.val (.int y1), .val (.int y2), .val (.int y3), .val (.int y4), .val (.int y5), .val (.int y6), .val (.int v5), .val (.int v12), .val (.int v19), .val (.int v26), .val (.int (1 : Int32)), .val (.int (1 : Int32)), .val (.int (2 : Int32)), .val (.ref b200), .unset] [(.int v12), (.int (2 : Int32)), (.ref b200)])) _
        refine XS.i2b X209.here hx rfl (hb hby at_70) rfl ?_
        show Steps p.tables e below (T209.setTop (mkF m 71 #[.val (.int y1), .val (.int y2), .val (.int y3), .val (.int y4), .val (.int y5), .val (.int y6), .val (.int v5), .val (.int v12), .val (.int v19), .val (.int v26), .val (.int (1 : Int32)), .val (.int (1 : Int32)), .val (.int (2 : Int32)), .val (.ref b200), .unset] [(.int (v12.toInt8.toInt32)), (.int (2 : Int32)), (.ref b200)])) _
        refine st218 _ ?_
        show Steps p.tables e below (T218.setTop (mkF m 72 #[.val (.int y1), .val (.int y2), .val (.int y3), .val (.int y4), .val (.int y5), .val (.int y6), .val (.int v5), .val (.int v12), .val (.int v19), .val (.int v26), .val (.int (1 : Int32)), .val (.int (1 : Int32)), .val (.int (2 : Int32)), .val (.ref b200), .unset] [])) _
        refine XS.aload X218.here hx rfl (hb hby at_72) rfl rfl ?_
        show Steps p.tables e below (T218.setTop (mkF m 74 #[.val (.int y1), .val (.int y2), .val (.int y3), .val (.int y4), .val (.int y5), .val (.int y6), .val (.int v5), .val (.int v12), .val (.int v19), .val (.int v26), .val (.int (1 : Int32)), .val (.int (1 : Int32)), .val (.int (2 : Int32)), .val (.ref b200), .unset] [(.ref b200)])) _
        refine XS.iload X218.here hx rfl (hb hby at_74) rfl ?_
        show Steps p.tables e below (T218.setTop (mkF m 76 #[.val (.int y1), .val (.int y2), .val (.int y3), .val (.int y4), .val (.int y5), .val (.int y6), .val (.int v5), .val (.int v12), .val (.int v19), .val (.int v26), .val (.int (1 : Int32)), .val (.int (1 : Int32)), .val (.int (2 : Int32)), .val (.ref b200), .unset] [(.int (1 : Int32)), (.ref b200)])) _
        refine XS.iconst X218.here hx rfl (hb hby at_76) ?_
        show Steps p.tables e below (T218.setTop (mkF m 77 #[.val (.int y1), .val (.int y2), .val (.int y3), .val (.int y4), .val (.int y5), .val (.int y6), .val (.int v5), .val (.int v12), .val (.int v19), .val (.int v26), .val (.int (1 : Int32)), .val (.int (1 : Int32)), .val (.int (2 : Int32)), .val (.ref b200), .unset] [(.int (2 : Int32)), (.int (1 : Int32)), (.ref b200)])) _
        refine XS.iadd X218.here hx rfl (hb hby at_77) rfl ?_
        show Steps p.tables e below (T218.setTop (mkF m 78 #[.val (.int y1), .val (.int y2), .val (.int y3), .val (.int y4), .val (.int y5), .val (.int y6), .val (.int v5), .val (.int v12), .val (.int v19), .val (.int v26), .val (.int (1 : Int32)), .val (.int (1 : Int32)), .val (.int (2 : Int32)), .val (.ref b200), .unset] [(.int (3 : Int32)), (.ref b200)])) _
        refine XS.iload X218.here hx rfl (hb hby at_78) rfl ?_
        show Steps p.tables e below (T218.setTop (mkF m 80 #[.val (.int y1), .val (.int y2), .val (.int y3), .val (.int y4), .val (.int y5), .val (.int y6), .val (.int v5), .val (.int v12), .val (.int v19), .val (.int v26), .val (.int (1 : Int32)), .val (.int (1 : Int32)), .val (.int (2 : Int32)), .val (.ref b200), .unset] [(.int v19), (.int (3 : Int32)), (.ref b200)])) _
        refine XS.i2b X218.here hx rfl (hb hby at_80) rfl ?_
        show Steps p.tables e below (T218.setTop (mkF m 81 #[.val (.int y1), .val (.int y2), .val (.int y3), .val (.int y4), .val (.int y5), .val (.int y6), .val (.int v5), .val (.int v12), .val (.int v19), .val (.int v26), .val (.int (1 : Int32)), .val (.int (1 : Int32)), .val (.int (2 : Int32)), .val (.ref b200), .unset] [(.int (v19.toInt8.toInt32)), (.int (3 : Int32)), (.ref b200)])) _
        refine st227 _ ?_
        show Steps p.tables e below (T227.setTop (mkF m 82 #[.val (.int y1), .val (.int y2), .val (.int y3), .val (.int y4), .val (.int y5), .val (.int y6), .val (.int v5), .val (.int v12), .val (.int v19), .val (.int v26), .val (.int (1 : Int32)), .val (.int (1 : Int32)), .val (.int (2 : Int32)), .val (.ref b200), .unset] [])) _
        refine XS.aload X227.here hx rfl (hb hby at_82) rfl rfl ?_
        show Steps p.tables e below (T227.setTop (mkF m 84 #[.val (.int y1), .val (.int y2), .val (.int y3), .val (.int y4), .val (.int y5), .val (.int y6), .val (.int v5), .val (.int v12), .val (.int v19), .val (.int v26), .val (.int (1 : Int32)), .val (.int (1 : Int32)), .val (.int (2 : Int32)), .val (.ref b200), .unset] [(.ref b200)])) _
        refine XS.iload X227.here hx rfl (hb hby at_84) rfl ?_
        show Steps p.tables e below (T227.setTop (mkF m 86 #[.val (.int y1), .val (.int y2), .val (.int y3), .val (.int y4), .val (.int y5), .val (.int y6), .val (.int v5), .val (.int v12), .val (.int v19), .val (.int v26), .val (.int (1 : Int32)), .val (.int (1 : Int32)), .val (.int (2 : Int32)), .val (.ref b200), .unset] [(.int (1 : Int32)), (.ref b200)])) _
        refine XS.iconst X227.here hx rfl (hb hby at_86) ?_
        show Steps p.tables e below (T227.setTop (mkF m 87 #[.val (.int y1), .val (.int y2), .val (.int y3), .val (.int y4), .val (.int y5), .val (.int y6), .val (.int v5), .val (.int v12), .val (.int v19), .val (.int v26), .val (.int (1 : Int32)), .val (.int (1 : Int32)), .val (.int (2 : Int32)), .val (.ref b200), .unset] [(.int (3 : Int32)), (.int (1 : Int32)), (.ref b200)])) _
        refine XS.iadd X227.here hx rfl (hb hby at_87) rfl ?_
        show Steps p.tables e below (T227.setTop (mkF m 88 #[.val (.int y1), .val (.int y2), .val (.int y3), .val (.int y4), .val (.int y5), .val (.int y6), .val (.int v5), .val (.int v12), .val (.int v19), .val (.int v26), .val (.int (1 : Int32)), .val (.int (1 : Int32)), .val (.int (2 : Int32)), .val (.ref b200), .unset] [(.int (4 : Int32)), (.ref b200)])) _
        refine XS.iload X227.here hx rfl (hb hby at_88) rfl ?_
        show Steps p.tables e below (T227.setTop (mkF m 90 #[.val (.int y1), .val (.int y2), .val (.int y3), .val (.int y4), .val (.int y5), .val (.int y6), .val (.int v5), .val (.int v12), .val (.int v19), .val (.int v26), .val (.int (1 : Int32)), .val (.int (1 : Int32)), .val (.int (2 : Int32)), .val (.ref b200), .unset] [(.int v26), (.int (4 : Int32)), (.ref b200)])) _
        refine XS.i2b X227.here hx rfl (hb hby at_90) rfl ?_
        show Steps p.tables e below (T227.setTop (mkF m 91 #[.val (.int y1), .val (.int y2), .val (.int y3), .val (.int y4), .val (.int y5), .val (.int y6), .val (.int v5), .val (.int v12), .val (.int v19), .val (.int v26), .val (.int (1 : Int32)), .val (.int (1 : Int32)), .val (.int (2 : Int32)), .val (.ref b200), .unset] [(.int (v26.toInt8.toInt32)), (.int (4 : Int32)), (.ref b200)])) _
        refine st236 _ ?_
        show Steps p.tables e below (T236.setTop (mkF m 92 #[.val (.int y1), .val (.int y2), .val (.int y3), .val (.int y4), .val (.int y5), .val (.int y6), .val (.int v5), .val (.int v12), .val (.int v19), .val (.int v26), .val (.int (1 : Int32)), .val (.int (1 : Int32)), .val (.int (2 : Int32)), .val (.ref b200), .unset] [])) _
        refine XS.aload X236.here hx rfl (hb hby at_92) rfl rfl ?_
        show Steps p.tables e below (T236.setTop (mkF m 94 #[.val (.int y1), .val (.int y2), .val (.int y3), .val (.int y4), .val (.int y5), .val (.int y6), .val (.int v5), .val (.int v12), .val (.int v19), .val (.int v26), .val (.int (1 : Int32)), .val (.int (1 : Int32)), .val (.int (2 : Int32)), .val (.ref b200), .unset] [(.ref b200)])) _
        refine XS.iload X236.here hx rfl (hb hby at_94) rfl ?_
        show Steps p.tables e below (T236.setTop (mkF m 96 #[.val (.int y1), .val (.int y2), .val (.int y3), .val (.int y4), .val (.int y5), .val (.int y6), .val (.int v5), .val (.int v12), .val (.int v19), .val (.int v26), .val (.int (1 : Int32)), .val (.int (1 : Int32)), .val (.int (2 : Int32)), .val (.ref b200), .unset] [(.int (1 : Int32)), (.ref b200)])) _
        refine XS.iload X236.here hx rfl (hb hby at_96) rfl ?_
        show Steps p.tables e below (T236.setTop (mkF m 98 #[.val (.int y1), .val (.int y2), .val (.int y3), .val (.int y4), .val (.int y5), .val (.int y6), .val (.int v5), .val (.int v12), .val (.int v19), .val (.int v26), .val (.int (1 : Int32)), .val (.int (1 : Int32)), .val (.int (2 : Int32)), .val (.ref b200), .unset] [(.int (2 : Int32)), (.int (1 : Int32)), (.ref b200)])) _
        refine st244 _ ?_
        show Steps p.tables e below (T244.setTop (mkF m 101 #[.val (.int y1), .val (.int y2), .val (.int y3), .val (.int y4), .val (.int y5), .val (.int y6), .val (.int v5), .val (.int v12), .val (.int v19), .val (.int v26), .val (.int (1 : Int32)), .val (.int (1 : Int32)), .val (.int (2 : Int32)), .val (.ref b200), .unset] [(.int (own_cs 1 (((v5.toInt8.toInt32).toInt8.toInt32) &&& (255 : Int32)) (((v12.toInt8.toInt32).toInt8.toInt32) &&& (255 : Int32)) (((v19.toInt8.toInt32).toInt8.toInt32) &&& (255 : Int32)) (((v26.toInt8.toInt32).toInt8.toInt32) &&& (255 : Int32))))])) _
        refine XS.istore X244.here hx rfl (hb hby at_101) rfl (l' := #[.val (.int y1), .val (.int y2), .val (.int y3), .val (.int y4), .val (.int y5), .val (.int y6), .val (.int v5), .val (.int v12), .val (.int v19), .val (.int v26), .val (.int (1 : Int32)), .val (.int (1 : Int32)), .val (.int (2 : Int32)), .val (.ref b200), .val (.int (own_cs 1 (((v5.toInt8.toInt32).toInt8.toInt32) &&& (255 : Int32)) (((v12.toInt8.toInt32).toInt8.toInt32) &&& (255 : Int32)) (((v19.toInt8.toInt32).toInt8.toInt32) &&& (255 : Int32)) (((v26.toInt8.toInt32).toInt8.toInt32) &&& (255 : Int32))))]) rfl ?_
        exact k
      obtain ⟨_, _, ⟨T246, L246, k246, n246⟩, -, X246, ⟨Lc246, hQ246, l246, y246, z246⟩, st246⟩ := Jvm.LawKit.callS X244 hx (y := (⟨"com/example/stratafile/stratafile/io/Utf8CharacterSizePinLaw", "expected", "(IIIII)I"⟩ : MethodName)) hown (mvT hZ (hw _ (List.mem_of_getElem? (i := 11) rfl))) (mvT hZ (hw _ (List.mem_of_getElem? (i := 12) rfl))) (mvT hZ (hw _ (List.mem_of_getElem? (i := 13) rfl))) (mvT hZ (hw _ (List.mem_of_getElem? (i := 14) rfl))) (by decide) (backOf (W := 1) (own_rm2 l Z a0 hw [] v5 v12 v19 v26 (1 : Int32) h236 n0 Z236 ) hZ (hw _ (List.mem_of_getElem? (i := 14) rfl)) (hw _ (List.mem_of_getElem? (i := 13) rfl)) (by decide) (by decide)) (g := (mkF m 115 #[.val (.int y1), .val (.int y2), .val (.int y3), .val (.int y4), .val (.int y5), .val (.int y6), .val (.int v5), .val (.int v12), .val (.int v19), .val (.int v26), .val (.int (1 : Int32)), .val (.int (1 : Int32)), .val (.int (2 : Int32)), .val (.ref b200), .val (.int v101)] [(.int (1 : Int32)), (.int v26), (.int v19), (.int v12), (.int v5), (.int v101)])) rfl (by rw [hml]; rfl) (argsL := [(.int v5), (.int v12), (.int v19), (.int v26), (.int (1 : Int32))]) (rest := [(.int v101)]) (lenOf own_pd2 rfl) rfl (by show 2 * 0 + _ ≤ _; exact Nat.le_of_eq rfl) (hb hby at_115) (fun _ _ => ⟨rfl, eh244, (by decide : 1 + 0 ≤ _), (by decide : 5 + 0 ≤ _)⟩)
      dsimp only [Pt.U, Pt.locs, Pt.cells, Pt.slots] at X246 l246 y246 z246 st246 hQ246
      subst l246 y246 z246
      obtain ⟨rfl, N246q, eh246⟩ := hQ246
      have N246 := Fr.app N244 N246q
      have hd247 : v101 = (own_ex v5 v12 v19 v26 (1 : Int32)) := (by rw [hv101, hv5, hv12, hv19, hv26, own_bb, own_bb, own_bb, own_bb]; exact own_fin 1 _ _ _ _ _ (by decide))
      obtain ⟨fs, hr, hrun, hended, hW, hsame⟩ := X246.leave (v := some (.int (1 : Int32))) (fun h => by rw [Bd.returns] at h; cases h)
      refine ⟨_, _, pre245 _ ?_, hrun, hended, _, _, rfl, ?_, ⟨_, rfl⟩, hW, hsame.mono (by decide) (by decide)⟩
      · show Steps p.tables e below (T244.setTop (mkF m 103 #[.val (.int y1), .val (.int y2), .val (.int y3), .val (.int y4), .val (.int y5), .val (.int y6), .val (.int v5), .val (.int v12), .val (.int v19), .val (.int v26), .val (.int (1 : Int32)), .val (.int (1 : Int32)), .val (.int (2 : Int32)), .val (.ref b200), .val (.int v101)] [])) _
        refine XS.iload X244.here hx rfl (hb hby at_103) rfl ?_
        show Steps p.tables e below (T244.setTop (mkF m 105 #[.val (.int y1), .val (.int y2), .val (.int y3), .val (.int y4), .val (.int y5), .val (.int y6), .val (.int v5), .val (.int v12), .val (.int v19), .val (.int v26), .val (.int (1 : Int32)), .val (.int (1 : Int32)), .val (.int (2 : Int32)), .val (.ref b200), .val (.int v101)] [(.int v101)])) _
        refine XS.iload X244.here hx rfl (hb hby at_105) rfl ?_
        show Steps p.tables e below (T244.setTop (mkF m 107 #[.val (.int y1), .val (.int y2), .val (.int y3), .val (.int y4), .val (.int y5), .val (.int y6), .val (.int v5), .val (.int v12), .val (.int v19), .val (.int v26), .val (.int (1 : Int32)), .val (.int (1 : Int32)), .val (.int (2 : Int32)), .val (.ref b200), .val (.int v101)] [(.int v5), (.int v101)])) _
        refine XS.iload X244.here hx rfl (hb hby at_107) rfl ?_
        show Steps p.tables e below (T244.setTop (mkF m 109 #[.val (.int y1), .val (.int y2), .val (.int y3), .val (.int y4), .val (.int y5), .val (.int y6), .val (.int v5), .val (.int v12), .val (.int v19), .val (.int v26), .val (.int (1 : Int32)), .val (.int (1 : Int32)), .val (.int (2 : Int32)), .val (.ref b200), .val (.int v101)] [(.int v12), (.int v5), (.int v101)])) _
        refine XS.iload X244.here hx rfl (hb hby at_109) rfl ?_
        show Steps p.tables e below (T244.setTop (mkF m 111 #[.val (.int y1), .val (.int y2), .val (.int y3), .val (.int y4), .val (.int y5), .val (.int y6), .val (.int v5), .val (.int v12), .val (.int v19), .val (.int v26), .val (.int (1 : Int32)), .val (.int (1 : Int32)), .val (.int (2 : Int32)), .val (.ref b200), .val (.int v101)] [(.int v19), (.int v12), (.int v5), (.int v101)])) _
        refine XS.iload X244.here hx rfl (hb hby at_111) rfl ?_
        show Steps p.tables e below (T244.setTop (mkF m 113 #[.val (.int y1), .val (.int y2), .val (.int y3), .val (.int y4), .val (.int y5), .val (.int y6), .val (.int v5), .val (.int v12), .val (.int v19), .val (.int v26), .val (.int (1 : Int32)), .val (.int (1 : Int32)), .val (.int (2 : Int32)), .val (.ref b200), .val (.int v101)] [(.int v26), (.int v19), (.int v12), (.int v5), (.int v101)])) _
        refine XS.iload X244.here hx rfl (hb hby at_113) rfl ?_
        show Steps p.tables e below (T244.setTop (mkF m 115 #[.val (.int y1), .val (.int y2), .val (.int y3), .val (.int y4), .val (.int y5), .val (.int y6), .val (.int v5), .val (.int v12), .val (.int v19), .val (.int v26), .val (.int (1 : Int32)), .val (.int (1 : Int32)), .val (.int (2 : Int32)), .val (.ref b200), .val (.int v101)] [(.int (1 : Int32)), (.int v26), (.int v19), (.int v12), (.int v5), (.int v101)])) _
        refine st246 _ ?_
        show Steps p.tables e below (T246.setTop (mkF m 118 #[.val (.int y1), .val (.int y2), .val (.int y3), .val (.int y4), .val (.int y5), .val (.int y6), .val (.int v5), .val (.int v12), .val (.int v19), .val (.int v26), .val (.int (1 : Int32)), .val (.int (1 : Int32)), .val (.int (2 : Int32)), .val (.ref b200), .val (.int v101)] [(.int (own_ex v5 v12 v19 v26 (1 : Int32))), (.int v101)])) _
        refine XS.icmpNo X246.here hx rfl (hb hby at_118) rfl (teq hd247).2 ?_
        show Steps p.tables e below (T246.setTop (mkF m 121 #[.val (.int y1), .val (.int y2), .val (.int y3), .val (.int y4), .val (.int y5), .val (.int y6), .val (.int v5), .val (.int v12), .val (.int v19), .val (.int v26), .val (.int (1 : Int32)), .val (.int (1 : Int32)), .val (.int (2 : Int32)), .val (.ref b200), .val (.int v101)] [])) _
        refine XS.iconst X246.here hx rfl (hb hby at_121) ?_
        show Steps p.tables e below (T246.setTop (mkF m 122 #[.val (.int y1), .val (.int y2), .val (.int y3), .val (.int y4), .val (.int y5), .val (.int y6), .val (.int v5), .val (.int v12), .val (.int v19), .val (.int v26), .val (.int (1 : Int32)), .val (.int (1 : Int32)), .val (.int (2 : Int32)), .val (.ref b200), .val (.int v101)] [(.int (1 : Int32))])) _
        refine XS.goto X246.here hx rfl (pc0 := 122) (pc' := 126) rfl (hb hby at_122) (by decide) (by decide) ?_
        show Steps p.tables e below (T246.setTop (mkF m 126 #[.val (.int y1), .val (.int y2), .val (.int y3), .val (.int y4), .val (.int y5), .val (.int y6), .val (.int v5), .val (.int v12), .val (.int v19), .val (.int v26), .val (.int (1 : Int32)), .val (.int (1 : Int32)), .val (.int (2 : Int32)), .val (.ref b200), .val (.int v101)] [(.int (1 : Int32))])) _
        exact retN X246 hx (t := .boolean) Bd.returns (by simp) (hb hby at_126) hr
      · show own_Q0 Z y1 y2 y3 y4 y5 y6 wS cS wL cL wH cH h0 n0 _ T246.heap _
        rw [eh246]
        exact ⟨rfl, N246⟩
    · subst hs_v40
      obtain ⟨T248, h248, k248, X248, e248, E248, A248, st248⟩ := newP X0 hx hZ (hw _ (List.mem_of_getElem? (i := 0) rfl)) e0 (g := (mkF m 50 #[.val (.int y1), .val (.int y2), .val (.int y3), .val (.int y4), .val (.int y5), .val (.int y6), .val (.int v5), .val (.int v12), .val (.int v19), .val (.int v26), .val (.int (1 : Int32)), .val (.int (2 : Int32)), .val (.int (3 : Int32)), .unset, .unset] [(.int (5 : Int32))])) rfl (hb hby at_50) rfl (by decide) (cap := 5) (by decide) (by decide) (by decide) (by decide)
      obtain ⟨b248, g248⟩ : ∃ z, z = h0.size := ⟨_, rfl⟩
      rw [← g248] at A248 st248
      have ne_wS_b248 : wS ≠ b248 := Nat.ne_of_lt (Nat.lt_of_lt_of_le R_wS.lt (Nat.le_of_eq g248.symm))
      have ne_wL_b248 : wL ≠ b248 := Nat.ne_of_lt (Nat.lt_of_lt_of_le R_wL.lt (Nat.le_of_eq g248.symm))
      have ne_wH_b248 : wH ≠ b248 := Nat.ne_of_lt (Nat.lt_of_lt_of_le R_wH.lt (Nat.le_of_eq g248.symm))
      have g_b248 : n0 ≤ b248 := Nat.le_trans Z0 (Nat.le_of_eq g248.symm)
      have sz_b248 : h0.size ≤ b248 := Nat.le_trans K0.1 (Nat.le_of_eq g248.symm)
      have K248 : Keep h0 h248 [] := K0.ext E248
      have F249 : Sta Z h248 "com/example/stratafile/stratafile/io/Utf8" "SIZES" "[B" (.ref wS) := S_SIZES.ext E248
      have F250 : Arr Z h248 wS cS .byte := R_wS.ext E248
      have F251 : Sta Z h248 "com/example/stratafile/stratafile/io/Utf8" "SECOND_LOWEST" "[I" (.ref wL) := S_SECOND_LOWEST.ext E248
      have F252 : Arr Z h248 wL cL .int := R_wL.ext E248
      have F253 : Sta Z h248 "com/example/stratafile/stratafile/io/Utf8" "SECOND_HIGHEST" "[I" (.ref wH) := S_SECOND_HIGHEST.ext E248
      have F254 : Arr Z h248 wH cH .int := R_wH.ext E248
      have Z248 : n0 ≤ h248.size := Nat.le_trans Z0 E248.1
      have F255 : Arv Z h248 b248 k248 .byte (5 : Int32) [(.int (0 : Int32)), (.int (0 : Int32)), (.int (0 : Int32)), (.int (0 : Int32)), (.int (0 : Int32))] (.int (0 : Int32)) := (Arv.new A248 (by decide)).pad (pad_rep [] (.int (0 : Int32)) 5)
      obtain ⟨cl256, Ar256, q256, S256, M256, H256, G256⟩ := id F255
      obtain ⟨T257, h257, X257, e257, W257, st257⟩ := stB X248 hx hZ e248 Ar256 (j := (1 : Int32)) (inb_of S256 ⟨by decide, by decide⟩) (g := (mkF m 61 #[.val (.int y1), .val (.int y2), .val (.int y3), .val (.int y4), .val (.int y5), .val (.int y6), .val (.int v5), .val (.int v12), .val (.int v19), .val (.int v26), .val (.int (1 : Int32)), .val (.int (2 : Int32)), .val (.int (3 : Int32)), .val (.ref b248), .unset] [(.int (v5.toInt8.toInt32)), (.int (1 : Int32)), (.ref b248)])) rfl rfl (hb hby at_61)
      have F258 : Arv Z h257 b248 k248 .byte (5 : Int32) [(.int (0 : Int32)), (.int ((v5.toInt8.toInt32).toInt8.toInt32)), (.int (0 : Int32)), (.int (0 : Int32)), (.int (0 : Int32))] (.int (0 : Int32)) := Arv.set Ar256 q256 S256 M256 H256 G256 (fits_nar_byte _) W257 1 rfl (Nat.le_of_ble_eq_true rfl)
      have F259 : Sta Z h257 "com/example/stratafile/stratafile/io/Utf8" "SIZES" "[B" (.ref wS) := F249.wr W257
      have F260 : Sta Z h257 "com/example/stratafile/stratafile/io/Utf8" "SECOND_LOWEST" "[I" (.ref wL) := F251.wr W257
      have F261 : Sta Z h257 "com/example/stratafile/stratafile/io/Utf8" "SECOND_HIGHEST" "[I" (.ref wH) := F253.wr W257
      have N257 := Fr.snoc X257 N0 g_b248
      have Z257 : n0 ≤ h257.size := Nat.le_trans Z248 (Keep.of_wr W257).1
      have K257 : Keep h0 h257 [] := K248.wr W257 (Or.inr sz_b248)
      have F262 : Arr Z h257 wS cS .byte := R_wS.ext (own_ext K257)
      have F263 : Arr Z h257 wL cL .int := R_wL.ext (own_ext K257)
      have F264 : Arr Z h257 wH cH .int := R_wH.ext (own_ext K257)
      obtain ⟨cl265, Ar265, q265, S265, M265, H265, G265⟩ := id F258
      obtain ⟨T266, h266, X266, e266, W266, st266⟩ := stB X257 hx hZ e257 Ar265 (j := (2 : Int32)) (inb_of S265 ⟨by decide, by decide⟩) (g := (mkF m 71 #[.val (.int y1), .val (.int y2), .val (.int y3), .val (.int y4), .val (.int y5), .val (.int y6), .val (.int v5), .val (.int v12), .val (.int v19), .val (.int v26), .val (.int (1 : Int32)), .val (.int (2 : Int32)), .val (.int (3 : Int32)), .val (.ref b248), .unset] [(.int (v12.toInt8.toInt32)), (.int (2 : Int32)), (.ref b248)])) rfl rfl (hb hby at_71)
      have F267 : Arv Z h266 b248 k248 .byte (5 : Int32) [(.int (0 : Int32)), (.int ((v5.toInt8.toInt32).toInt8.toInt32)), (.int ((v12.toInt8.toInt32).toInt8.toInt32)), (.int (0 : Int32)), (.int (0 : Int32))] (.int (0 : Int32)) := Arv.set Ar265 q265 S265 M265 H265 G265 (fits_nar_byte _) W266 2 rfl (Nat.le_of_ble_eq_true rfl)
      have F268 : Sta Z h266 "com/example/stratafile/stratafile/io/Utf8" "SIZES" "[B" (.ref wS) := F259.wr W266
      have F269 : Sta Z h266 "com/example/stratafile/stratafile/io/Utf8" "SECOND_LOWEST" "[I" (.ref wL) := F260.wr W266
      have F270 : Sta Z h266 "com/example/stratafile/stratafile/io/Utf8" "SECOND_HIGHEST" "[I" (.ref wH) := F261.wr W266
      have N266 := Fr.snoc X266 N257 g_b248
      have Z266 : n0 ≤ h266.size := Nat.le_trans Z257 (Keep.of_wr W266).1
      have K266 : Keep h0 h266 [] := K257.wr W266 (Or.inr sz_b248)
      have F271 : Arr Z h266 wS cS .byte := R_wS.ext (own_ext K266)
      have F272 : Arr Z h266 wL cL .int := R_wL.ext (own_ext K266)
      have F273 : Arr Z h266 wH cH .int := R_wH.ext (own_ext K266)
      obtain ⟨cl274, Ar274, q274, S274, M274, H274, G274⟩ := id F267
      obtain ⟨T275, h275, X275, e275, W275, st275⟩ := stB X266 hx hZ e266 Ar274 (j := (3 : Int32)) (inb_of S274 ⟨by decide, by decide⟩) (g := (mkF m 81 #[.val (.int y1), .val (.int y2), .val (.int y3), .val (.int y4), .val (.int y5), .val (.int y6), .val (.int v5), .val (.int v12), .val (.int v19), .val (.int v26), .val (.int (1 : Int32)), .val (.int (2 : Int32)), .val (.int (3 : Int32)), .val (.ref b248), .unset] [(.int (v19.toInt8.toInt32)), (.int (3 : Int32)), (.ref b248)])) rfl rfl (hb hby at_81)
      have F276 : Arv Z h275 b248 k248 .byte (5 : Int32) [(.int (0 : Int32)), (.int ((v5.toInt8.toInt32).toInt8.toInt32)), (.int ((v12.toInt8.toInt32).toInt8.toInt32)), (.int ((v19.toInt8.toInt32).toInt8.toInt32)), (.int (0 : Int32))] (.int (0 : Int32)) := Arv.set Ar274 q274 S274 M274 H274 G274 (fits_nar_byte _) W275 3 rfl (Nat.le_of_ble_eq_true rfl)
      have F277 : Sta Z h275 "com/example/stratafile/stratafile/io/Utf8" "SIZES" "[B" (.ref wS) := F268.wr W275
      have F278 : Sta Z h275 "com/example/stratafile/stratafile/io/Utf8" "SECOND_LOWEST" "[I" (.ref wL) := F269.wr W275
      have F279 : Sta Z h275 "com/example/stratafile/stratafile/io/Utf8" "SECOND_HIGHEST" "[I" (.ref wH) := F270.wr W275
      have N275 := Fr.snoc X275 N266 g_b248
      have Z275 : n0 ≤ h275.size := Nat.le_trans Z266 (Keep.of_wr W275).1
      have K275 : Keep h0 h275 [] := K266.wr W275 (Or.inr sz_b248)
      have F280 : Arr Z h275 wS cS .byte := R_wS.ext (own_ext K275)
      have F281 : Arr Z h275 wL cL .int := R_wL.ext (own_ext K275)
      have F282 : Arr Z h275 wH cH .int := R_wH.ext (own_ext K275)
      obtain ⟨cl283, Ar283, q283, S283, M283, H283, G283⟩ := id F276
      obtain ⟨T284, h284, X284, e284, W284, st284⟩ := stB X275 hx hZ e275 Ar283 (j := (4 : Int32)) (inb_of S283 ⟨by decide, by decide⟩) (g := (mkF m 91 #[.val (.int y1), .val (.int y2), .val (.int y3), .val (.int y4), .val (.int y5), .val (.int y6), .val (.int v5), .val (.int v12), .val (.int v19), .val (.int v26), .val (.int (1 : Int32)), .val (.int (2 : Int32)), .val (.int (3 : Int32)), .val (.ref b248), .unset] [(.int (v26.toInt8.toInt32)), (.int (4 : Int32)), (.ref b248)])) rfl rfl (hb hby at_91)
      have F285 : Arv Z h284 b248 k248 .byte (5 : Int32) [(.int (0 : Int32)), (.int ((v5.toInt8.toInt32).toInt8.toInt32)), (.int ((v12.toInt8.toInt32).toInt8.toInt32)), (.int ((v19.toInt8.toInt32).toInt8.toInt32)), (.int ((v26.toInt8.toInt32).toInt8.toInt32))] (.int (0 : Int32)) := Arv.set Ar283 q283 S283 M283 H283 G283 (fits_nar_byte _) W284 4 rfl (Nat.le_of_ble_eq_true rfl)
      have F286 : Sta Z h284 "com/example/stratafile/stratafile/io/Utf8" "SIZES" "[B" (.ref wS) := F277.wr W284
      have F287 : Sta Z h284 "com/example/stratafile/stratafile/io/Utf8" "SECOND_LOWEST" "[I" (.ref wL) := F278.wr W284
      have F288 : Sta Z h284 "com/example/stratafile/stratafile/io/Utf8" "SECOND_HIGHEST" "[I" (.ref wH) := F279.wr W284
      have N284 := Fr.snoc X284 N275 g_b248
      have Z284 : n0 ≤ h284.size := Nat.le_trans Z275 (Keep.of_wr W284).1
      have K284 : Keep h0 h284 [] := K275.wr W284 (Or.inr sz_b248)
      have F289 : Arr Z h284 wS cS .byte := R_wS.ext (own_ext K284)
      have F290 : Arr Z h284 wL cL .int := R_wL.ext (own_ext K284)
      have F291 : Arr Z h284 wH cH .int := R_wH.ext (own_ext K284)
      obtain ⟨_, _, ⟨T292, L292, k292, n292⟩, -, X292, ⟨Lc292, hQ292, l292, y292, z292⟩, st292⟩ := Jvm.LawKit.callS X284 hx (y := (⟨"com/example/stratafile/stratafile/io/Utf8", "characterSize", "([BII)I"⟩ : MethodName)) hown (mvT hZ (hw _ (List.mem_of_getElem? (i := 1) rfl))) (mvT hZ (hw _ (List.mem_of_getElem? (i := 2) rfl))) (mvT hZ (hw _ (List.mem_of_getElem? (i := 3) rfl))) (mvT hZ (hw _ (List.mem_of_getElem? (i := 4) rfl))) (by decide) (backOf (W := 0) (own_rm1_1_2 l Z a0 hw [] b248 k248 (0 : Int32) ((v5.toInt8.toInt32).toInt8.toInt32) ((v12.toInt8.toInt32).toInt8.toInt32) ((v19.toInt8.toInt32).toInt8.toInt32) ((v26.toInt8.toInt32).toInt8.toInt32) wS cS wL cL wH cH h284 n0 Z284 F285 F286 F289 F287 F290 F288 F291 (szcS) (tacS) (szcL) (tacL) (szcH) (tacH)) hZ (hw _ (List.mem_of_getElem? (i := 4) rfl)) (hw _ (List.mem_of_getElem? (i := 3) rfl)) (by decide) (by decide)) (g := (mkF m 98 #[.val (.int y1), .val (.int y2), .val (.int y3), .val (.int y4), .val (.int y5), .val (.int y6), .val (.int v5), .val (.int v12), .val (.int v19), .val (.int v26), .val (.int (1 : Int32)), .val (.int (2 : Int32)), .val (.int (3 : Int32)), .val (.ref b248), .unset] [(.int (3 : Int32)), (.int (1 : Int32)), (.ref b248)])) rfl (by rw [hml]; rfl) (argsL := [(.ref b248), (.int (1 : Int32)), (.int (3 : Int32))]) (rest := []) (lenOf own_pd1 rfl) rfl (by show 2 * 0 + _ ≤ _; exact Nat.le_of_eq rfl) (hb hby at_98) (fun _ _ => ⟨rfl, e284, (by decide : 1 + 0 ≤ _), (by decide : 5 + 0 ≤ _)⟩)
      dsimp only [Pt.U, Pt.locs, Pt.cells, Pt.slots] at X292 l292 y292 z292 st292 hQ292
      subst l292 y292 z292
      obtain ⟨rfl, N292q, eh292⟩ := hQ292
      have N292 := Fr.app N284 N292q
      obtain ⟨v101, hv101⟩ : ∃ w : Int32, w = (own_cs 2 (((v5.toInt8.toInt32).toInt8.toInt32) &&& (255 : Int32)) (((v12.toInt8.toInt32).toInt8.toInt32) &&& (255 : Int32)) (((v19.toInt8.toInt32).toInt8.toInt32) &&& (255 : Int32)) (((v26.toInt8.toInt32).toInt8.toInt32) &&& (255 : Int32))) := ⟨_, rfl⟩
      have pre293 : ∀ t, Steps p.tables e below (T292.setTop (mkF m 103 #[.val (.int y1), .val (.int y2), .val (.int y3), .val (.int y4), .val (.int y5), .val (.int y6), .val (.int v5), .val (.int v12), .val (.int v19), .val (.int v26), .val (.int (1 : Int32)), .val (.int (2 : Int32)), .val (.int (3 : Int32)), .val (.ref b248), .val (.int v101)] [])) t → Steps p.tables e below (s₁.setTop (entryFrame m #[(.int y1), (.int y2), (.int y3), (.int y4), (.int y5), (.int y6)] maxLocals)) t := by
        intro t k
        rw [hv101] at k
        refine pre199 _ ?_
        show Steps p.tables e below (s₁.setTop (mkF m 42 #[.val (.int y1), .val (.int y2), .val (.int y3), .val (.int y4), .val (.int y5), .val (.int y6), .val (.int v5), .val (.int v12), .val (.int v19), .val (.int v26), .val (.int (1 : Int32)), .val (.int (2 : Int32)), .unset, .unset, .unset] [])) _
        refine XS.iload X0.here hx rfl (hb hby at_42) rfl ?_
        show Steps p.tables e below (s₁.setTop (mkF m 44 #[.val (.int y1), .val (.int y2), .val (.int y3), .val (.int y4), .val (.int y5), .val (.int y6), .val (.int v5), .val (.int v12), .val (.int v19), .val (.int v26), .val (.int (1 : Int32)), .val (.int (2 : Int32)), .unset, .unset, .unset] [(.int (1 : Int32))])) _
        refine XS.iload X0.here hx rfl (hb hby at_44) rfl ?_
        show Steps p.tables e below (s₁.setTop (mkF m 46 #[.val (.int y1), .val (.int y2), .val (.int y3), .val (.int y4), .val (.int y5), .val (.int y6), .val (.int v5), .val (.int v12), .val (.int v19), .val (.int v26), .val (.int (1 : Int32)), .val (.int (2 : Int32)), .unset, .unset, .unset] [(.int (2 : Int32)), (.int (1 : Int32))])) _
        refine XS.iadd X0.here hx rfl (hb hby at_46) rfl ?_
        show Steps p.tables e below (s₁.setTop (mkF m 47 #[.val (.int y1), .val (.int y2), .val (.int y3), .val (.int y4), .val (.int y5), .val (.int y6), .val (.int v5), .val (.int v12), .val (.int v19), .val (.int v26), .val (.int (1 : Int32)), .val (.int (2 : Int32)), .unset, .unset, .unset] [(.int (3 : Int32))])) _
        refine XS.istore X0.here hx rfl (hb hby at_47) rfl (l' := #[.val (.int y1), .val (.int y2), .val (.int y3), .val (.int y4), .val (.int y5), .val (.int y6), .val (.int v5), .val (.int v12), .val (.int v19), .val (.int v26), .val (.int (1 : Int32)), .val (.int (2 : Int32)), .val (.int (3 : Int32)), .unset, .unset]) rfl ?_
        show Steps p.tables e below (s₁.setTop (mkF m 49 #[.val (.int y1), .val (.int y2), .val (.int y3), .val (.int y4), .val (.int y5), .val (.int y6), .val (.int v5), .val (.int v12), .val (.int v19), .val (.int v26), .val (.int (1 : Int32)), .val (.int (2 : Int32)), .val (.int (3 : Int32)), .unset, .unset] [])) _
        refine XS.iconst X0.here hx rfl (hb hby at_49) ?_
        show Steps p.tables e below (s₁.setTop (mkF m 50 #[.val (.int y1), .val (.int y2), .val (.int y3), .val (.int y4), .val (.int y5), .val (.int y6), .val (.int v5), .val (.int v12), .val (.int v19), .val (.int v26), .val (.int (1 : Int32)), .val (.int (2 : Int32)), .val (.int (3 : Int32)), .unset, .unset] [(.int (5 : Int32))])) _
        refine st248 _ ?_
        show Steps p.tables e below (T248.setTop (mkF m 52 #[.val (.int y1), .val (.int y2), .val (.int y3), .val (.int y4), .val (.int y5), .val (.int y6), .val (.int v5), .val (.int v12), .val (.int v19), .val (.int v26), .val (.int (1 : Int32)), .val (.int (2 : Int32)), .val (.int (3 : Int32)), .unset, .unset] [(.ref b248)])) _
        refine XS.astore X248.here hx rfl (hb hby at_52) rfl rfl (l' := #[.val (.int y1), .val (.int y2), .val (.int y3), .val (.int y4), .val (.int y5), .val (.int y6), .val (.int v5), .val (.int v12), .val (.int v19), .val (.int v26), .val (.int (1 : Int32)), .val (.int (2 : Int32)), .val (.int (3 : Int32)), .val (.ref b248), .unset]) rfl ?_
        show Steps p.tables e below (T248.setTop (mkF m 54 #[.val (.int y1), .val (.int y2), .val (.int y3), .val (.int y4), .val (.int y5), .val (.int y6), .val (.int v5), .val (.int v12), .val (.int v19), .val (.int v26), .val (.int (1 : Int32)), .val (.int (2 : Int32)), .val (.int (3 : Int32)), .val (.ref b248), .unset] [])) _
        refine XS.aload X248.here hx rfl (hb hby at_54) rfl rfl ?_
        show Steps p.tables e below (T248.setTop (mkF m 56 #[.val (.int y1), .val (.int y2), .val (.int y3), .val (.int y4), .val (.int y5), .val (.int y6), .val (.int v5), .val (.int v12), .val (.int v19), .val (.int v26), .val (.int (1 : Int32)), .val (.int (2 : Int32)), .val (.int (3 : Int32)), .val (.ref b248), .unset] [(.ref b248)])) _
        refine XS.iload X248.here hx rfl (hb hby at_56) rfl ?_
        show Steps p.tables e below (T248.setTop (mkF m 58 #[.val (.int y1), .val (.int y2), .val (.int y3), .val (.int y4), .val (.int y5), .val (.int y6), .val (.int v5), .val (.int v12), .val (.int v19), .val (.int v26), .val (.int (1 : Int32)), .val (.int (2 : Int32)), .val (.int (3 : Int32)), .val (.ref b248), .unset] [(.int (1 : Int32)), (.ref b248)])) _
        refine XS.iload X248.here hx rfl (hb hby at_58) rfl ?_
        show Steps p.tables e below (T248.setTop (mkF m 60 #[.val (.int y1), .val (.int y2), .val (.int y3), .val (.int y4), .val (.int y5), .val (.int y6), .val (.int v5), .val (.int v12), .val (.int v19), .val (.int v26), .val (.int (1 : Int32)), .val (.int (2 : Int32)), .val (.int (3 : Int32)), .val (.ref b248), .unset] [(.int v5), (.int (1 : Int32)), (.ref b248)])) _
        refine XS.i2b X248.here hx rfl (hb hby at_60) rfl ?_
        show Steps p.tables e below (T248.setTop (mkF m 61 #[.val (.int y1), .val (.int y2), .val (.int y3), .val (.int y4), .val (.int y5), .val (.int y6), .val (.int v5), .val (.int v12), .val (.int v19), .val (.int v26), .val (.int (1 : Int32)), .val (.int (2 : Int32)), .val (.int (3 : Int32)), .val (.ref b248), .unset] [(.int (v5.toInt8.toInt32)), (.int (1 : Int32)), (.ref b248)])) _
        refine st257 _ ?_
        show Steps p.tables e below (T257.setTop (mkF m 62 #[.val (.int y1), .val (.int y2), .val (.int y3), .val (.int y4), .val (.int y5), .val (.int y6), .val (.int v5), .val (.int v12), .val (.int v19), .val (.int v26), .val (.int (1 : Int32)), .val (.int (2 : Int32)), .val (.int (3 : Int32)), .val (.ref b248), .unset] [])) _
        refine XS.aload X257.here hx rfl (hb hby at_62) rfl rfl ?_
        show Steps p.tables e below (T257.setTop (mkF m 64 #[.val (.int y1), .val (.int y2), .val (.int y3), .val (.int y4), .val (.int y5), .val (.int y6), .val (.int v5), .val (.int v12), .val (.int v19), .val (.int v26), .val (.int (1 : Int32)), .val (.int (2 : Int32)), .val (.int (3 : Int32)), .val (.ref b248), .unset] [(.ref b248)])) _
        refine XS.iload X257.here hx rfl (hb hby at_64) rfl ?_
        show Steps p.tables e below (T257.setTop (mkF m 66 #[.val (.int y1), .val (.int y2), .val (.int y3), .val (.int y4), .val (.int y5), .val (.int y6), .val (.int v5), .val (.int v12), .val (.int v19), .val (.int v26), .val (.int (1 : Int32)), .val (.int (2 : Int32)), .val (.int (3 : Int32)), .val (.ref b248), .unset] [(.int (1 : Int32)), (.ref b248)])) _
        refine XS.iconst X257.here hx rfl (hb hby at_66) ?_
        show Steps p.tables e below (T257.setTop (mkF m 67 #[.val (.int y1), .val (.int y2), .val (.int y3), .val (.int y4), .val (.int y5), .val (.int y6), .val (.int v5), .val (.int v12), .val (.int v19), .val (.int v26), .val (.int (1 : Int32)), .val (.int (2 : Int32)), .val (.int (3 : Int32)), .val (.ref b248), .unset] [(.int (1 : Int32)), (.int (1 : Int32)), (.ref b248)])) _
        refine XS.iadd X257.here hx rfl (hb hby at_67) rfl ?_
        show Steps p.tables e below (T257.setTop (mkF m 68 #[.val (.int y1), .val (.int y2), .val (.int y3), .val (.int y4), .val (.int y5), .val (.int y6), .val (.int v5), .val (.int v12), .val (.int v19), .val (.int v26), .val (.int (1 : Int32)), .val (.int (2 : Int32)), .val (.int (3 : Int32)), .val (.ref b248), .unset] [(.int (2 : Int32)), (.ref b248)])) _
        refine XS.iload X257.here hx rfl (hb hby at_68) rfl ?_
        show Steps p.tables e below (T257.setTop (mkF m 70 #[.val (.int y1), .val (.int y2), .val (.int y3), .val (.int y4), .val (.int y5), .val (.int y6), .val (.int v5), .val (.int v12), .val (.int v19), .val (.int v26), .val (.int (1 : Int32)), .val (.int (2 : Int32)), .val (.int (3 : Int32)), .val (.ref b248), .unset] [(.int v12), (.int (2 : Int32)), (.ref b248)])) _
        refine XS.i2b X257.here hx rfl (hb hby at_70) rfl ?_
        show Steps p.tables e below (T257.setTop (mkF m 71 #[.val (.int y1), .val (.int y2), .val (.int y3), .val (.int y4), .val (.int y5), .val (.int y6), .val (.int v5), .val (.int v12), .val (.int v19), .val (.int v26), .val (.int (1 : Int32)), .val (.int (2 : Int32)), .val (.int (3 : Int32)), .val (.ref b248), .unset] [(.int (v12.toInt8.toInt32)), (.int (2 : Int32)), (.ref b248)])) _
        refine st266 _ ?_
        show Steps p.tables e below (T266.setTop (mkF m 72 #[.val (.int y1), .val (.int y2), .val (.int y3), .val (.int y4), .val (.int y5), .val (.int y6), .val (.int v5), .val (.int v12), .val (.int v19), .val (.int v26), .val (.int (1 : Int32)), .val (.int (2 : Int32)), .val (.int (3 : Int32)), .val (.ref b248), .unset] [])) _
        refine XS.aload X266.here hx rfl (hb hby at_72) rfl rfl ?_
        show Steps p.tables e below (T266.setTop (mkF m 74 #[.val (.int y1), .val (.int y2), .val (.int y3), .val (.int y4), .val (.int y5), .val (.int y6), .val (.int v5), .val (.int v12), .val (.int v19), .val (.int v26), .val (.int (1 : Int32)), .val (.int (2 : Int32)), .val (.int (3 : Int32)), .val (.ref b248), .unset] [(.ref b248)])) _
        refine XS.iload X266.here hx rfl (hb hby at_74) rfl ?_
        show Steps p.tables e below (T266.setTop (mkF m 76 #[.val (.int y1), .val (.int y2), .val (.int y3), .val (.int y4), .val (.int y5), .val (.int y6), .val (.int v5), .val (.int v12), .val (.int v19), .val (.int v26), .val (.int (1 : Int32)), .val (.int (2 : Int32)), .val (.int (3 : Int32)), .val (.ref b248), .unset] [(.int (1 : Int32)), (.ref b248)])) _
        refine XS.iconst X266.here hx rfl (hb hby at_76) ?_
        show Steps p.tables e below (T266.setTop (mkF m 77 #[.val (.int y1), .val (.int y2), .val (.int y3), .val (.int y4), .val (.int y5), .val (.int y6), .val (.int v5), .val (.int v12), .val (.int v19), .val (.int v26), .val (.int (1 : Int32)), .val (.int (2 : Int32)), .val (.int (3 : Int32)), .val (.ref b248), .unset] [(.int (2 : Int32)), (.int (1 : Int32)), (.ref b248)])) _
        refine XS.iadd X266.here hx rfl (hb hby at_77) rfl ?_
        show Steps p.tables e below (T266.setTop (mkF m 78 #[.val (.int y1), .val (.int y2), .val (.int y3), .val (.int y4), .val (.int y5), .val (.int y6), .val (.int v5), .val (.int v12), .val (.int v19), .val (.int v26), .val (.int (1 : Int32)), .val (.int (2 : Int32)), .val (.int (3 : Int32)), .val (.ref b248), .unset] [(.int (3 : Int32)), (.ref b248)])) _
        refine XS.iload X266.here hx rfl (hb hby at_78) rfl ?_
        show Steps p.tables e below (T266.setTop (mkF m 80 #[.val (.int y1), .val (.int y2), .val (.int y3), .val (.int y4), .val (.int y5), .val (.int y6), .val (.int v5), .val (.int v12), .val (.int v19), .val (.int v26), .val (.int (1 : Int32)), .val (.int (2 : Int32)), .val (.int (3 : Int32)), .val (.ref b248), .unset] [(.int v19), (.int (3 : Int32)), (.ref b248)])) _
        refine XS.i2b X266.here hx rfl (hb hby at_80) rfl ?_
        show Steps p.tables e below (T266.setTop (mkF m 81 #[.val (.int y1), .val (.int y2), .val (.int y3), .val (.int y4), .val (.int y5), .val (.int y6), .val (.int v5), .val (.int v12), .val (.int v19), .val (.int v26), .val (.int (1 : Int32)), .val (.int (2 : Int32)), .val (.int (3 : Int32)), .val (.ref b248), .unset] [(.int (v19.toInt8.toInt32)), (.int (3 : Int32)), (.ref b248)])) _
        refine st275 _ ?_
        show Steps p.tables e below (T275.setTop (mkF m 82 #[.val (.int y1), .val (.int y2), .val (.int y3), .val (.int y4), .val (.int y5), .val (.int y6), .val (.int v5), .val (.int v12), .val (.int v19), .val (.int v26), .val (.int (1 : Int32)), .val (.int (2 : Int32)), .val (.int (3 : Int32)), .val (.ref b248), .unset] [])) _
        refine XS.aload X275.here hx rfl (hb hby at_82) rfl rfl ?_
        show Steps p.tables e below (T275.setTop (mkF m 84 #[.val (.int y1), .val (.int y2), .val (.int y3), .val (.int y4), .val (.int y5), .val (.int y6), .val (.int v5), .val (.int v12), .val (.int v19), .val (.int v26), .val (.int (1 : Int32)), .val (.int (2 : Int32)), .val (.int (3 : Int32)), .val (.ref b248), .unset] [(.ref b248)])) _
        refine XS.iload X275.here hx rfl (hb hby at_84) rfl ?_
        show Steps p.tables e below (T275.setTop (mkF m 86 #[.val (.int y1), .val (.int y2), .val (.int y3), .val (.int y4), .val (.int y5), .val (.int y6), .val (.int v5), .val (.int v12), .val (.int v19), .val (.int v26), .val (.int (1 : Int32)), .val (.int (2 : Int32)), .val (.int (3 : Int32)), .val (.ref b248), .unset] [(.int (1 : Int32)), (.ref b248)])) _
        refine XS.iconst X275.here hx rfl (hb hby at_86) ?_
        show Steps p.tables e below (T275.setTop (mkF m 87 #[.val (.int y1), .val (.int y2), .val (.int y3), .val (.int y4), .val (.int y5), .val (.int y6), .val (.int v5), .val (.int v12), .val (.int v19), .val (.int v26), .val (.int (1 : Int32)), .val (.int (2 : Int32)), .val (.int (3 : Int32)), .val (.ref b248), .unset] [(.int (3 : Int32)), (.int (1 : Int32)), (.ref b248)])) _
        refine XS.iadd X275.here hx rfl (hb hby at_87) rfl ?_
        show Steps p.tables e below (T275.setTop (mkF m 88 #[.val (.int y1), .val (.int y2), .val (.int y3), .val (.int y4), .val (.int y5), .val (.int y6), .val (.int v5), .val (.int v12), .val (.int v19), .val (.int v26), .val (.int (1 : Int32)), .val (.int (2 : Int32)), .val (.int (3 : Int32)), .val (.ref b248), .unset] [(.int (4 : Int32)), (.ref b248)])) _
        refine XS.iload X275.here hx rfl (hb hby at_88) rfl ?_
        show Steps p.tables e below (T275.setTop (mkF m 90 #[.val (.int y1), .val (.int y2), .val (.int y3), .val (.int y4), .val (.int y5), .val (.int y6), .val (.int v5), .val (.int v12), .val (.int v19), .val (.int v26), .val (.int (1 : Int32)), .val (.int (2 : Int32)), .val (.int (3 : Int32)), .val (.ref b248), .unset] [(.int v26), (.int (4 : Int32)), (.ref b248)])) _
        refine XS.i2b X275.here hx rfl (hb hby at_90) rfl ?_
        show Steps p.tables e below (T275.setTop (mkF m 91 #[.val (.int y1), .val (.int y2), .val (.int y3), .val (.int y4), .val (.int y5), .val (.int y6), .val (.int v5), .val (.int v12), .val (.int v19), .val (.int v26), .val (.int (1 : Int32)), .val (.int (2 : Int32)), .val (.int (3 : Int32)), .val (.ref b248), .unset] [(.int (v26.toInt8.toInt32)), (.int (4 : Int32)), (.ref b248)])) _
        refine st284 _ ?_
        show Steps p.tables e below (T284.setTop (mkF m 92 #[.val (.int y1), .val (.int y2), .val (.int y3), .val (.int y4), .val (.int y5), .val (.int y6), .val (.int v5), .val (.int v12), .val (.int v19), .val (.int v26), .val (.int (1 : Int32)), .val (.int (2 : Int32)), .val (.int (3 : Int32)), .val (.ref b248), .unset] [])) _
        refine XS.aload X284.here hx rfl (hb hby at_92) rfl rfl ?_
        show Steps p.tables e below (T284.setTop (mkF m 94 #[.val (.int y1), .val (.int y2), .val (.int y3), .val (.int y4), .val (.int y5), .val (.int y6), .val (.int v5), .val (.int v12), .val (.int v19), .val (.int v26), .val (.int (1 : Int32)), .val (.int (2 : Int32)), .val (.int (3 : Int32)), .val (.ref b248), .unset] [(.ref b248)])) _
        refine XS.iload X284.here hx rfl (hb hby at_94) rfl ?_
        show Steps p.tables e below (T284.setTop (mkF m 96 #[.val (.int y1), .val (.int y2), .val (.int y3), .val (.int y4), .val (.int y5), .val (.int y6), .val (.int v5), .val (.int v12), .val (.int v19), .val (.int v26), .val (.int (1 : Int32)), .val (.int (2 : Int32)), .val (.int (3 : Int32)), .val (.ref b248), .unset] [(.int (1 : Int32)), (.ref b248)])) _
        refine XS.iload X284.here hx rfl (hb hby at_96) rfl ?_
        show Steps p.tables e below (T284.setTop (mkF m 98 #[.val (.int y1), .val (.int y2), .val (.int y3), .val (.int y4), .val (.int y5), .val (.int y6), .val (.int v5), .val (.int v12), .val (.int v19), .val (.int v26), .val (.int (1 : Int32)), .val (.int (2 : Int32)), .val (.int (3 : Int32)), .val (.ref b248), .unset] [(.int (3 : Int32)), (.int (1 : Int32)), (.ref b248)])) _
        refine st292 _ ?_
        show Steps p.tables e below (T292.setTop (mkF m 101 #[.val (.int y1), .val (.int y2), .val (.int y3), .val (.int y4), .val (.int y5), .val (.int y6), .val (.int v5), .val (.int v12), .val (.int v19), .val (.int v26), .val (.int (1 : Int32)), .val (.int (2 : Int32)), .val (.int (3 : Int32)), .val (.ref b248), .unset] [(.int (own_cs 2 (((v5.toInt8.toInt32).toInt8.toInt32) &&& (255 : Int32)) (((v12.toInt8.toInt32).toInt8.toInt32) &&& (255 : Int32)) (((v19.toInt8.toInt32).toInt8.toInt32) &&& (255 : Int32)) (((v26.toInt8.toInt32).toInt8.toInt32) &&& (255 : Int32))))])) _
        refine XS.istore X292.here hx rfl (hb hby at_101) rfl (l' := #[.val (.int y1), .val (.int y2), .val (.int y3), .val (.int y4), .val (.int y5), .val (.int y6), .val (.int v5), .val (.int v12), .val (.int v19), .val (.int v26), .val (.int (1 : Int32)), .val (.int (2 : Int32)), .val (.int (3 : Int32)), .val (.ref b248), .val (.int (own_cs 2 (((v5.toInt8.toInt32).toInt8.toInt32) &&& (255 : Int32)) (((v12.toInt8.toInt32).toInt8.toInt32) &&& (255 : Int32)) (((v19.toInt8.toInt32).toInt8.toInt32) &&& (255 : Int32)) (((v26.toInt8.toInt32).toInt8.toInt32) &&& (255 : Int32))))]) rfl ?_
        exact k
      obtain ⟨_, _, ⟨T294, L294, k294, n294⟩, -, X294, ⟨Lc294, hQ294, l294, y294, z294⟩, st294⟩ := Jvm.LawKit.callS X292 hx (y := (⟨"com/example/stratafile/stratafile/io/Utf8CharacterSizePinLaw", "expected", "(IIIII)I"⟩ : MethodName)) hown (mvT hZ (hw _ (List.mem_of_getElem? (i := 11) rfl))) (mvT hZ (hw _ (List.mem_of_getElem? (i := 12) rfl))) (mvT hZ (hw _ (List.mem_of_getElem? (i := 13) rfl))) (mvT hZ (hw _ (List.mem_of_getElem? (i := 14) rfl))) (by decide) (backOf (W := 1) (own_rm2 l Z a0 hw [] v5 v12 v19 v26 (2 : Int32) h284 n0 Z284 ) hZ (hw _ (List.mem_of_getElem? (i := 14) rfl)) (hw _ (List.mem_of_getElem? (i := 13) rfl)) (by decide) (by decide)) (g := (mkF m 115 #[.val (.int y1), .val (.int y2), .val (.int y3), .val (.int y4), .val (.int y5), .val (.int y6), .val (.int v5), .val (.int v12), .val (.int v19), .val (.int v26), .val (.int (1 : Int32)), .val (.int (2 : Int32)), .val (.int (3 : Int32)), .val (.ref b248), .val (.int v101)] [(.int (2 : Int32)), (.int v26), (.int v19), (.int v12), (.int v5), (.int v101)])) rfl (by rw [hml]; rfl) (argsL := [(.int v5), (.int v12), (.int v19), (.int v26), (.int (2 : Int32))]) (rest := [(.int v101)]) (lenOf own_pd2 rfl) rfl (by show 2 * 0 + _ ≤ _; exact Nat.le_of_eq rfl) (hb hby at_115) (fun _ _ => ⟨rfl, eh292, (by decide : 1 + 0 ≤ _), (by decide : 5 + 0 ≤ _)⟩)
      dsimp only [Pt.U, Pt.locs, Pt.cells, Pt.slots] at X294 l294 y294 z294 st294 hQ294
      subst l294 y294 z294
      obtain ⟨rfl, N294q, eh294⟩ := hQ294
      have N294 := Fr.app N292 N294q
      have hd295 : v101 = (own_ex v5 v12 v19 v26 (2 : Int32)) := (by rw [hv101, hv5, hv12, hv19, hv26, own_bb, own_bb, own_bb, own_bb]; exact own_fin 2 _ _ _ _ _ (by decide))
      obtain ⟨fs, hr, hrun, hended, hW, hsame⟩ := X294.leave (v := some (.int (1 : Int32))) (fun h => by rw [Bd.returns] at h; cases h)
      refine ⟨_, _, pre293 _ ?_, hrun, hended, _, _, rfl, ?_, ⟨_, rfl⟩, hW, hsame.mono (by decide) (by decide)⟩
      · show Steps p.tables e below (T292.setTop (mkF m 103 #[.val (.int y1), .val (.int y2), .val (.int y3), .val (.int y4), .val (.int y5), .val (.int y6), .val (.int v5), .val (.int v12), .val (.int v19), .val (.int v26), .val (.int (1 : Int32)), .val (.int (2 : Int32)), .val (.int (3 : Int32)), .val (.ref b248), .val (.int v101)] [])) _
        refine XS.iload X292.here hx rfl (hb hby at_103) rfl ?_
        show Steps p.tables e below (T292.setTop (mkF m 105 #[.val (.int y1), .val (.int y2), .val (.int y3), .val (.int y4), .val (.int y5), .val (.int y6), .val (.int v5), .val (.int v12), .val (.int v19), .val (.int v26), .val (.int (1 : Int32)), .val (.int (2 : Int32)), .val (.int (3 : Int32)), .val (.ref b248), .val (.int v101)] [(.int v101)])) _
        refine XS.iload X292.here hx rfl (hb hby at_105) rfl ?_
        show Steps p.tables e below (T292.setTop (mkF m 107 #[.val (.int y1), .val (.int y2), .val (.int y3), .val (.int y4), .val (.int y5), .val (.int y6), .val (.int v5), .val (.int v12), .val (.int v19), .val (.int v26), .val (.int (1 : Int32)), .val (.int (2 : Int32)), .val (.int (3 : Int32)), .val (.ref b248), .val (.int v101)] [(.int v5), (.int v101)])) _
        refine XS.iload X292.here hx rfl (hb hby at_107) rfl ?_
        show Steps p.tables e below (T292.setTop (mkF m 109 #[.val (.int y1), .val (.int y2), .val (.int y3), .val (.int y4), .val (.int y5), .val (.int y6), .val (.int v5), .val (.int v12), .val (.int v19), .val (.int v26), .val (.int (1 : Int32)), .val (.int (2 : Int32)), .val (.int (3 : Int32)), .val (.ref b248), .val (.int v101)] [(.int v12), (.int v5), (.int v101)])) _
        refine XS.iload X292.here hx rfl (hb hby at_109) rfl ?_
        show Steps p.tables e below (T292.setTop (mkF m 111 #[.val (.int y1), .val (.int y2), .val (.int y3), .val (.int y4), .val (.int y5), .val (.int y6), .val (.int v5), .val (.int v12), .val (.int v19), .val (.int v26), .val (.int (1 : Int32)), .val (.int (2 : Int32)), .val (.int (3 : Int32)), .val (.ref b248), .val (.int v101)] [(.int v19), (.int v12), (.int v5), (.int v101)])) _
        refine XS.iload X292.here hx rfl (hb hby at_111) rfl ?_
        show Steps p.tables e below (T292.setTop (mkF m 113 #[.val (.int y1), .val (.int y2), .val (.int y3), .val (.int y4), .val (.int y5), .val (.int y6), .val (.int v5), .val (.int v12), .val (.int v19), .val (.int v26), .val (.int (1 : Int32)), .val (.int (2 : Int32)), .val (.int (3 : Int32)), .val (.ref b248), .val (.int v101)] [(.int v26), (.int v19), (.int v12), (.int v5), (.int v101)])) _
        refine XS.iload X292.here hx rfl (hb hby at_113) rfl ?_
        show Steps p.tables e below (T292.setTop (mkF m 115 #[.val (.int y1), .val (.int y2), .val (.int y3), .val (.int y4), .val (.int y5), .val (.int y6), .val (.int v5), .val (.int v12), .val (.int v19), .val (.int v26), .val (.int (1 : Int32)), .val (.int (2 : Int32)), .val (.int (3 : Int32)), .val (.ref b248), .val (.int v101)] [(.int (2 : Int32)), (.int v26), (.int v19), (.int v12), (.int v5), (.int v101)])) _
        refine st294 _ ?_
        show Steps p.tables e below (T294.setTop (mkF m 118 #[.val (.int y1), .val (.int y2), .val (.int y3), .val (.int y4), .val (.int y5), .val (.int y6), .val (.int v5), .val (.int v12), .val (.int v19), .val (.int v26), .val (.int (1 : Int32)), .val (.int (2 : Int32)), .val (.int (3 : Int32)), .val (.ref b248), .val (.int v101)] [(.int (own_ex v5 v12 v19 v26 (2 : Int32))), (.int v101)])) _
        refine XS.icmpNo X294.here hx rfl (hb hby at_118) rfl (teq hd295).2 ?_
        show Steps p.tables e below (T294.setTop (mkF m 121 #[.val (.int y1), .val (.int y2), .val (.int y3), .val (.int y4), .val (.int y5), .val (.int y6), .val (.int v5), .val (.int v12), .val (.int v19), .val (.int v26), .val (.int (1 : Int32)), .val (.int (2 : Int32)), .val (.int (3 : Int32)), .val (.ref b248), .val (.int v101)] [])) _
        refine XS.iconst X294.here hx rfl (hb hby at_121) ?_
        show Steps p.tables e below (T294.setTop (mkF m 122 #[.val (.int y1), .val (.int y2), .val (.int y3), .val (.int y4), .val (.int y5), .val (.int y6), .val (.int v5), .val (.int v12), .val (.int v19), .val (.int v26), .val (.int (1 : Int32)), .val (.int (2 : Int32)), .val (.int (3 : Int32)), .val (.ref b248), .val (.int v101)] [(.int (1 : Int32))])) _
        refine XS.goto X294.here hx rfl (pc0 := 122) (pc' := 126) rfl (hb hby at_122) (by decide) (by decide) ?_
        show Steps p.tables e below (T294.setTop (mkF m 126 #[.val (.int y1), .val (.int y2), .val (.int y3), .val (.int y4), .val (.int y5), .val (.int y6), .val (.int v5), .val (.int v12), .val (.int v19), .val (.int v26), .val (.int (1 : Int32)), .val (.int (2 : Int32)), .val (.int (3 : Int32)), .val (.ref b248), .val (.int v101)] [(.int (1 : Int32))])) _
        exact retN X294 hx (t := .boolean) Bd.returns (by simp) (hb hby at_126) hr
      · show own_Q0 Z y1 y2 y3 y4 y5 y6 wS cS wL cL wH cH h0 n0 _ T294.heap _
        rw [eh294]
        exact ⟨rfl, N294⟩
    · subst hs_v40
      obtain ⟨T296, h296, k296, X296, e296, E296, A296, st296⟩ := newP X0 hx hZ (hw _ (List.mem_of_getElem? (i := 0) rfl)) e0 (g := (mkF m 50 #[.val (.int y1), .val (.int y2), .val (.int y3), .val (.int y4), .val (.int y5), .val (.int y6), .val (.int v5), .val (.int v12), .val (.int v19), .val (.int v26), .val (.int (1 : Int32)), .val (.int (3 : Int32)), .val (.int (4 : Int32)), .unset, .unset] [(.int (5 : Int32))])) rfl (hb hby at_50) rfl (by decide) (cap := 5) (by decide) (by decide) (by decide) (by decide)
      obtain ⟨b296, g296⟩ : ∃ z, z = h0.size := ⟨_, rfl⟩
      rw [← g296] at A296 st296
      have ne_wS_b296 : wS ≠ b296 := Nat.ne_of_lt (Nat.lt_of_lt_of_le R_wS.lt (Nat.le_of_eq g296.symm))
      have ne_wL_b296 : wL ≠ b296 := Nat.ne_of_lt (Nat.lt_of_lt_of_le R_wL.lt (Nat.le_of_eq g296.symm))
      have ne_wH_b296 : wH ≠ b296 := Nat.ne_of_lt (Nat.lt_of_lt_of_le R_wH.lt (Nat.le_of_eq g296.symm))
      have g_b296 : n0 ≤ b296 := Nat.le_trans Z0 (Nat.le_of_eq g296.symm)
      have sz_b296 : h0.size ≤ b296 := Nat.le_trans K0.1 (Nat.le_of_eq g296.symm)
      have K296 : Keep h0 h296 [] := K0.ext E296
      have F297 : Sta Z h296 "com/example/stratafile/stratafile/io/Utf8" "SIZES" "[B" (.ref wS) := S_SIZES.ext E296
      have F298 : Arr Z h296 wS cS .byte := R_wS.ext E296
      have F299 : Sta Z h296 "com/example/stratafile/stratafile/io/Utf8" "SECOND_LOWEST" "[I" (.ref wL) := S_SECOND_LOWEST.ext E296
      have F300 : Arr Z h296 wL cL .int := R_wL.ext E296
      have F301 : Sta Z h296 "com/example/stratafile/stratafile/io/Utf8" "SECOND_HIGHEST" "[I" (.ref wH) := S_SECOND_HIGHEST.ext E296
      have F302 : Arr Z h296 wH cH .int := R_wH.ext E296
      have Z296 : n0 ≤ h296.size := Nat.le_trans Z0 E296.1
      have F303 : Arv Z h296 b296 k296 .byte (5 : Int32) [(.int (0 : Int32)), (.int (0 : Int32)), (.int (0 : Int32)), (.int (0 : Int32)), (.int (0 : Int32))] (.int (0 : Int32)) := (Arv.new A296 (by decide)).pad (pad_rep [] (.int (0 : Int32)) 5)
      obtain ⟨cl304, Ar304, q304, S304, M304, H304, G304⟩ := id F303
      obtain ⟨T305, h305, X305, e305, W305, st305⟩ := stB X296 hx hZ e296 Ar304 (j := (1 : Int32)) (inb_of S304 ⟨by decide, by decide⟩) (g := (mkF m 61 #[.val (.int y1), .val (.int y2), .val (.int y3), .val (.int y4), .val (.int y5), .val (.int y6), .val (.int v5), .val (.int v12), .val (.int v19), .val (.int v26), .val (.int (1 : Int32)), .val (.int (3 : Int32)), .val (.int (4 : Int32)), .val (.ref b296), .unset] [(.int (v5.toInt8.toInt32)), (.int (1 : Int32)), (.ref b296)])) rfl rfl (hb hby at_61)
      have F306 : Arv Z h305 b296 k296 .byte (5 : Int32) [(.int (0 : Int32)), (.int ((v5.toInt8.toInt32).toInt8.toInt32)), (.int (0 : Int32)), (.int (0 : Int32)), (.int (0 : Int32))] (.int (0 : Int32)) := Arv.set Ar304 q304 S304 M304 H304 G304 (fits_nar_byte _) W305 1 rfl (Nat.le_of_ble_eq_true rfl)
      have F307 : Sta Z h305 "com/example/stratafile/stratafile/io/Utf8" "SIZES" "[B" (.ref wS) := F297.wr W305
      have F308 : Sta Z h305 "com/example/stratafile/stratafile/io/Utf8" "SECOND_LOWEST" "[I" (.ref wL) := F299.wr W305
      have F309 : Sta Z h305 "com/example/stratafile/stratafile/io/Utf8" "SECOND_HIGHEST" "[I" (.ref wH) := F301.wr W305
      have N305 := Fr.snoc X305 N0 g_b296
      have Z305 : n0 ≤ h305.size := Nat.le_trans Z296 (Keep.of_wr W305).1
      have K305 : Keep h0 h305 [] := K296.wr W305 (Or.inr sz_b296)
      have F310 : Arr Z h305 wS cS .byte := R_wS.ext (own_ext K305)
      have F311 : Arr Z h305 wL cL .int := R_wL.ext (own_ext K305)
      have F312 : Arr Z h305 wH cH .int := R_wH.ext (own_ext K305)
      obtain ⟨cl313, Ar313, q313, S313, M313, H313, G313⟩ := id F306
      obtain ⟨T314, h314, X314, e314, W314, st314⟩ := stB X305 hx hZ e305 Ar313 (j := (2 : Int32)) (inb_of S313 ⟨by decide, by decide⟩) (g := (mkF m 71 #[.val (.int y1), .val (.int y2), .val (.int y3), .val (.int y4), .val (.int y5), .val (.int y6), .val (.int v5), .val (.int v12), .val (.int v19), .val (.int v26), .val (.int (1 : Int32)), .val (.int (3 : Int32)), .val (.int (4 : Int32)), .val (.ref b296), .unset] [(.int (v12.toInt8.toInt32)), (.int (2 : Int32)), (.ref b296)])) rfl rfl (hb hby at_71)
      have F315 : Arv Z h314 b296 k296 .byte (5 : Int32) [(.int (0 : Int32)), (.int ((v5.toInt8.toInt32).toInt8.toInt32)), (.int ((v12.toInt8.toInt32).toInt8.toInt32)), (.int (0 : Int32)), (.int (0 : Int32))] (.int (0 : Int32)) := Arv.set Ar313 q313 S313 M313 H313 G313 (fits_nar_byte _) W314 2 rfl (Nat.le_of_ble_eq_true rfl)
      have F316 : Sta Z h314 "com/example/stratafile/stratafile/io/Utf8" "SIZES" "[B" (.ref wS) := F307.wr W314
      have F317 : Sta Z h314 "com/example/stratafile/stratafile/io/Utf8" "SECOND_LOWEST" "[I" (.ref wL) := F308.wr W314
      have F318 : Sta Z h314 "com/example/stratafile/stratafile/io/Utf8" "SECOND_HIGHEST" "[I" (.ref wH) := F309.wr W314
      have N314 := Fr.snoc X314 N305 g_b296
      have Z314 : n0 ≤ h314.size := Nat.le_trans Z305 (Keep.of_wr W314).1
      have K314 : Keep h0 h314 [] := K305.wr W314 (Or.inr sz_b296)
      have F319 : Arr Z h314 wS cS .byte := R_wS.ext (own_ext K314)
      have F320 : Arr Z h314 wL cL .int := R_wL.ext (own_ext K314)
      have F321 : Arr Z h314 wH cH .int := R_wH.ext (own_ext K314)
      obtain ⟨cl322, Ar322, q322, S322, M322, H322, G322⟩ := id F315
      obtain ⟨T323, h323, X323, e323, W323, st323⟩ := stB X314 hx hZ e314 Ar322 (j := (3 : Int32)) (inb_of S322 ⟨by decide, by decide⟩) (g := (mkF m 81 #[.val (.int y1), .val (.int y2), .val (.int y3), .val (.int y4), .val (.int y5), .val (.int y6), .val (.int v5), .val (.int v12), .val (.int v19), .val (.int v26), .val (.int (1 : Int32)), .val (.int (3 : Int32)), .val (.int (4 : Int32)), .val (.ref b296), .unset] [(.int (v19.toInt8.toInt32)), (.int (3 : Int32)), (.ref b296)])) rfl rfl (hb hby at_81)
      have F324 : Arv Z h323 b296 k296 .byte (5 : Int32) [(.int (0 : Int32)), (.int ((v5.toInt8.toInt32).toInt8.toInt32)), (.int ((v12.toInt8.toInt32).toInt8.toInt32)), (.int ((v19.toInt8.toInt32).toInt8.toInt32)), (.int (0 : Int32))] (.int (0 : Int32)) := Arv.set Ar322 q322 S322 M322 H322 G322 (fits_nar_byte _) W323 3 rfl (Nat.le_of_ble_eq_true rfl)
      have F325 : Sta Z h323 "com/example/stratafile/stratafile/io/Utf8" "SIZES" "[B" (.ref wS) := F316.wr W323
      have F326 : Sta Z h323 "com/example/stratafile/stratafile/io/Utf8" "SECOND_LOWEST" "[I" (.ref wL) := F317.wr W323
      have F327 : Sta Z h323 "com/example/stratafile/stratafile/io/Utf8" "SECOND_HIGHEST" "[I" (.ref wH) := F318.wr W323
      have N323 := Fr.snoc X323 N314 g_b296
      have Z323 : n0 ≤ h323.size := Nat.le_trans Z314 (Keep.of_wr W323).1
      have K323 : Keep h0 h323 [] := K314.wr W323 (Or.inr sz_b296)
      have F328 : Arr Z h323 wS cS .byte := R_wS.ext (own_ext K323)
      have F329 : Arr Z h323 wL cL .int := R_wL.ext (own_ext K323)
      have F330 : Arr Z h323 wH cH .int := R_wH.ext (own_ext K323)
      obtain ⟨cl331, Ar331, q331, S331, M331, H331, G331⟩ := id F324
      obtain ⟨T332, h332, X332, e332, W332, st332⟩ := stB X323 hx hZ e323 Ar331 (j := (4 : Int32)) (inb_of S331 ⟨by decide, by decide⟩) (g := (mkF m 91 #[.val (.int y1), .val (.int y2), .val (.int y3), .val (.int y4), .val (.int y5), .val (.int y6), .val (.int v5), .val (.int v12), .val (.int v19), .val (.int v26), .val (.int (1 : Int32)), .val (.int (3 : Int32)), .val (.int (4 : Int32)), .val (.ref b296), .unset] [(.int (v26.toInt8.toInt32)), (.int (4 : Int32)), (.ref b296)])) rfl rfl (hb hby at_91)
      have F333 : Arv Z h332 b296 k296 .byte (5 : Int32) [(.int (0 : Int32)), (.int ((v5.toInt8.toInt32).toInt8.toInt32)), (.int ((v12.toInt8.toInt32).toInt8.toInt32)), (.int ((v19.toInt8.toInt32).toInt8.toInt32)), (.int ((v26.toInt8.toInt32).toInt8.toInt32))] (.int (0 : Int32)) := Arv.set Ar331 q331 S331 M331 H331 G331 (fits_nar_byte _) W332 4 rfl (Nat.le_of_ble_eq_true rfl)
      have F334 : Sta Z h332 "com/example/stratafile/stratafile/io/Utf8" "SIZES" "[B" (.ref wS) := F325.wr W332
      have F335 : Sta Z h332 "com/example/stratafile/stratafile/io/Utf8" "SECOND_LOWEST" "[I" (.ref wL) := F326.wr W332
      have F336 : Sta Z h332 "com/example/stratafile/stratafile/io/Utf8" "SECOND_HIGHEST" "[I" (.ref wH) := F327.wr W332
      have N332 := Fr.snoc X332 N323 g_b296
      have Z332 : n0 ≤ h332.size := Nat.le_trans Z323 (Keep.of_wr W332).1
      have K332 : Keep h0 h332 [] := K323.wr W332 (Or.inr sz_b296)
      have F337 : Arr Z h332 wS cS .byte := R_wS.ext (own_ext K332)
      have F338 : Arr Z h332 wL cL .int := R_wL.ext (own_ext K332)
      have F339 : Arr Z h332 wH cH .int := R_wH.ext (own_ext K332)
      obtain ⟨_, _, ⟨T340, L340, k340, n340⟩, -, X340, ⟨Lc340, hQ340, l340, y340, z340⟩, st340⟩ := Jvm.LawKit.callS X332 hx (y := (⟨"com/example/stratafile/stratafile/io/Utf8", "characterSize", "([BII)I"⟩ : MethodName)) hown (mvT hZ (hw _ (List.mem_of_getElem? (i := 1) rfl))) (mvT hZ (hw _ (List.mem_of_getElem? (i := 2) rfl))) (mvT hZ (hw _ (List.mem_of_getElem? (i := 3) rfl))) (mvT hZ (hw _ (List.mem_of_getElem? (i := 4) rfl))) (by decide) (backOf (W := 0) (own_rm1_1_3 l Z a0 hw [] b296 k296 (0 : Int32) ((v5.toInt8.toInt32).toInt8.toInt32) ((v12.toInt8.toInt32).toInt8.toInt32) ((v19.toInt8.toInt32).toInt8.toInt32) ((v26.toInt8.toInt32).toInt8.toInt32) wS cS wL cL wH cH h332 n0 Z332 F333 F334 F337 F335 F338 F336 F339 (szcS) (tacS) (szcL) (tacL) (szcH) (tacH)) hZ (hw _ (List.mem_of_getElem? (i := 4) rfl)) (hw _ (List.mem_of_getElem? (i := 3) rfl)) (by decide) (by decide)) (g := (mkF m 98 #[.val (.int y1), .val (.int y2), .val (.int y3), .val (.int y4), .val (.int y5), .val (.int y6), .val (.int v5), .val (.int v12), .val (.int v19), .val (.int v26), .val (.int (1 : Int32)), .val (.int (3 : Int32)), .val (.int (4 : Int32)), .val (.ref b296), .unset] [(.int (4 : Int32)), (.int (1 : Int32)), (.ref b296)])) rfl (by rw [hml]; rfl) (argsL := [(.ref b296), (.int (1 : Int32)), (.int (4 : Int32))]) (rest := []) (lenOf own_pd1 rfl) rfl (by show 2 * 0 + _ ≤ _; exact Nat.le_of_eq rfl) (hb hby at_98) (fun _ _ => ⟨rfl, e332, (by decide : 1 + 0 ≤ _), (by decide : 5 + 0 ≤ _)⟩)
      dsimp only [Pt.U, Pt.locs, Pt.cells, Pt.slots] at X340 l340 y340 z340 st340 hQ340
      subst l340 y340 z340
      obtain ⟨rfl, N340q, eh340⟩ := hQ340
      have N340 := Fr.app N332 N340q
      obtain ⟨v101, hv101⟩ : ∃ w : Int32, w = (own_cs 3 (((v5.toInt8.toInt32).toInt8.toInt32) &&& (255 : Int32)) (((v12.toInt8.toInt32).toInt8.toInt32) &&& (255 : Int32)) (((v19.toInt8.toInt32).toInt8.toInt32) &&& (255 : Int32)) (((v26.toInt8.toInt32).toInt8.toInt32) &&& (255 : Int32))) := ⟨_, rfl⟩
      have pre341 : ∀ t, Steps p.tables e below (T340.setTop (mkF m 103 #[.val (.int y1), .val (.int y2), .val (.int y3), .val (.int y4), .val (.int y5), .val (.int y6), .val (.int v5), .val (.int v12), .val (.int v19), .val (.int v26), .val (.int (1 : Int32)), .val (.int (3 : Int32)), .val (.int (4 : Int32)), .val (.ref b296), .val (.int v101)] [])) t → Steps p.tables e below (s₁.setTop (entryFrame m #[(.int y1), (.int y2), (.int y3), (.int y4), (.int y5), (.int y6)] maxLocals)) t := by
        intro t k
        rw [hv101] at k
        refine pre199 _ ?_
        show Steps p.tables e below (s₁.setTop (mkF m 42 #[.val (.int y1), .val (.int y2), .val (.int y3), .val (.int y4), .val (.int y5), .val (.int y6), .val (.int v5), .val (.int v12), .val (.int v19), .val (.int v26), .val (.int (1 : Int32)), .val (.int (3 : Int32)), .unset, .unset, .unset] [])) _
        refine XS.iload X0.here hx rfl (hb hby at_42) rfl ?_
        show Steps p.tables e below (s₁.setTop (mkF m 44 #[.val (.int y1), .val (.int y2), .val (.int y3), .val (.int y4), .val (.int y5), .val (.int y6), .val (.int v5), .val (.int v12), .val (.int v19), .val (.int v26), .val (.int (1 : Int32)), .val (.int (3 : Int32)), .unset, .unset, .unset] [(.int (1 : Int32))])) _
        refine XS.iload X0.here hx rfl (hb hby at_44) rfl ?_
        show Steps p.tables e below (s₁.setTop (mkF m 46 #[.val (.int y1), .val (.int y2), .val (.int y3), .val (.int y4), .val (.int y5), .val (.int y6), .val (.int v5), .val (.int v12), .val (.int v19), .val (.int v26), .val (.int (1 : Int32)), .val (.int (3 : Int32)), .unset, .unset, .unset] [(.int (3 : Int32)), (.int (1 : Int32))])) _
        refine XS.iadd X0.here hx rfl (hb hby at_46) rfl ?_
        show Steps p.tables e below (s₁.setTop (mkF m 47 #[.val (.int y1), .val (.int y2), .val (.int y3), .val (.int y4), .val (.int y5), .val (.int y6), .val (.int v5), .val (.int v12), .val (.int v19), .val (.int v26), .val (.int (1 : Int32)), .val (.int (3 : Int32)), .unset, .unset, .unset] [(.int (4 : Int32))])) _
        refine XS.istore X0.here hx rfl (hb hby at_47) rfl (l' := #[.val (.int y1), .val (.int y2), .val (.int y3), .val (.int y4), .val (.int y5), .val (.int y6), .val (.int v5), .val (.int v12), .val (.int v19), .val (.int v26), .val (.int (1 : Int32)), .val (.int (3 : Int32)), .val (.int (4 : Int32)), .unset, .unset]) rfl ?_
        show Steps p.tables e below (s₁.setTop (mkF m 49 #[.val (.int y1), .val (.int y2), .val (.int y3), .val (.int y4), .val (.int y5), .val (.int y6), .val (.int v5), .val (.int v12), .val (.int v19), .val (.int v26), .val (.int (1 : Int32)), .val (.int (3 : Int32)), .val (.int (4 : Int32)), .unset, .unset] [])) _
        refine XS.iconst X0.here hx rfl (hb hby at_49) ?_
        show Steps p.tables e below (s₁.setTop (mkF m 50 #[.val (.int y1), .val (.int y2), .val (.int y3), .val (.int y4), .val (.int y5), .val (.int y6), .val (.int v5), .val (.int v12), .val (.int v19), .val (.int v26), .val (.int (1 : Int32)), .val (.int (3 : Int32)), .val (.int (4 : Int32)), .unset, .unset] [(.int (5 : Int32))])) _
        refine st296 _ ?_
        show Steps p.tables e below (T296.setTop (mkF m 52 #[.val (.int y1), .val (.int y2), .val (.int y3), .val (.int y4), .val (.int y5), .val (.int y6), .val (.int v5), .val (.int v12), .val (.int v19), .val (.int v26), .val (.int (1 : Int32)), .val (.int (3 : Int32)), .val (.int (4 : Int32)), .unset, .unset] [(.ref b296)])) _
        refine XS.astore X296.here hx rfl (hb hby at_52) rfl rfl (l' := #[.val (.int y1), .val (.int y2), .val (.int y3), .val (.int y4), .val (.int y5), .val (.int y6), .val (.int v5), .val (.int v12), .val (.int v19), .val (.int v26), .val (.int (1 : Int32)), .val (.int (3 : Int32)), .val (.int (4 : Int32)), .val (.ref b296), .unset]) rfl ?_
        show Steps p.tables e below (T296.setTop (mkF m 54 #[.val (.int y1), .val (.int y2), .val (.int y3), .val (.int y4), .val (.int y5), .val (.int y6), .val (.int v5), .val (.int v12), .val (.int v19), .val (.int v26), .val (.int (1 : Int32)), .val (.int (3 : Int32)), .val (.int (4 : Int32)), .val (.ref b296), .unset] [])) _
        refine XS.aload X296.here hx rfl (hb hby at_54) rfl rfl ?_
        show Steps p.tables e below (T296.setTop (mkF m 56 #[.val (.int y1), .val (.int y2), .val (.int y3), .val (.int y4), .val (.int y5), .val (.int y6), .val (.int v5), .val (.int v12), .val (.int v19), .val (.int v26), .val (.int (1 : Int32)), .val (.int (3 : Int32)), .val (.int (4 : Int32)), .val (.ref b296), .unset] [(.ref b296)])) _
        refine XS.iload X296.here hx rfl (hb hby at_56) rfl ?_
        show Steps p.tables e below (T296.setTop (mkF m 58 #[.val (.int y1), .val (.int y2), .val (.int y3), .val (.int y4), .val (.int y5), .val (.int y6), .val (.int v5), .val (.int v12), .val (.int v19), .val (.int v26), .val (.int (1 : Int32)), .val (.int (3 : Int32)), .val (.int (4 : Int32)), .val (.ref b296), .unset] [(.int (1 : Int32)), (.ref b296)])) _
        refine XS.iload X296.here hx rfl (hb hby at_58) rfl ?_
        show Steps p.tables e below (T296.setTop (mkF m 60 #[.val (.int y1), .val (.int y2), .val (.int y3), .val (.int y4), .val (.int y5), .val (.int y6), .val (.int v5), .val (.int v12), .val (.int v19), .val (.int v26), .val (.int (1 : Int32)), .val (.int (3 : Int32)), .val (.int (4 : Int32)), .val (.ref b296), .unset] [(.int v5), (.int (1 : Int32)), (.ref b296)])) _
        refine XS.i2b X296.here hx rfl (hb hby at_60) rfl ?_
        show Steps p.tables e below (T296.setTop (mkF m 61 #[.val (.int y1), .val (.int y2), .val (.int y3), .val (.int y4), .val (.int y5), .val (.int y6), .val (.int v5), .val (.int v12), .val (.int v19), .val (.int v26), .val (.int (1 : Int32)), .val (.int (3 : Int32)), .val (.int (4 : Int32)), .val (.ref b296), .unset] [(.int (v5.toInt8.toInt32)), (.int (1 : Int32)), (.ref b296)])) _
        refine st305 _ ?_
        show Steps p.tables e below (T305.setTop (mkF m 62 #[.val (.int y1), .val (.int y2), .val (.int y3), .val (.int y4), .val (.int y5), .val (.int y6), .val (.int v5), .val (.int v12), .val (.int v19), .val (.int v26), .val (.int (1 : Int32)), .val (.int (3 : Int32)), .val (.int (4 : Int32)), .val (.ref b296), .unset] [])) _
        refine XS.aload X305.here hx rfl (hb hby at_62) rfl rfl ?_
        show Steps p.tables e below (T305.setTop (mkF m 64 #[.val (.int y1), .val (.int y2), .val (.int y3), .val (.int y4), .val (.int y5), .val (.int y6), .val (.int v5), .val (.int v12), .val (.int v19), .val (.int v26), .val (.int (1 : Int32)), .val (.int (3 : Int32)), .val (.int (4 : Int32)), .val (.ref b296), .unset] [(.ref b296)])) _
        refine XS.iload X305.here hx rfl (hb hby at_64) rfl ?_
        show Steps p.tables e below (T305.setTop (mkF m 66 #[.val (.int y1), .val (.int y2), .val (.int y3), .val (.int y4), .val (.int y5), .val (.int y6), .val (.int v5), .val (.int v12), .val (.int v19), .val (.int v26), .val (.int (1 : Int32)), .val (.int (3 : Int32)), .val (.int (4 : Int32)), .val (.ref b296), .unset] [(.int (1 : Int32)), (.ref b296)])) _
        refine XS.iconst X305.here hx rfl (hb hby at_66) ?_
        show Steps p.tables e below (T305.setTop (mkF m 67 #[.val (.int y1), .val (.int y2), .val (.int y3), .val (.int y4), .val (.int y5), .val (.int y6), .val (.int v5), .val (.int v12), .val (.int v19), .val (.int v26), .val (.int (1 : Int32)), .val (.int (3 : Int32)), .val (.int (4 : Int32)), .val (.ref b296), .unset] [(.int (1 : Int32)), (.int (1 : Int32)), (.ref b296)])) _
        refine XS.iadd X305.here hx rfl (hb hby at_67) rfl ?_
        show Steps p.tables e below (T305.setTop (mkF m 68 #[.val (.int y1), .val (.int y2), .val (.int y3), .val (.int y4), .val (.int y5), .val (.int y6), .val (.int v5), .val (.int v12), .val (.int v19), .val (.int v26), .val (.int (1 : Int32)), .val (.int (3 : Int32)), .val (.int (4 : Int32)), .val (.ref b296), .unset] [(.int (2 : Int32)), (.ref b296)])) _
        refine XS.iload X305.here hx rfl (hb hby at_68) rfl ?_
        show Steps p.tables e below (T305.setTop (mkF m 70 #[.val (.int y1), .val (.int y2), .val (.int y3), .val (.int y4), .val (.int y5), .val (.int y6), .val (.int v5), .val (.int v12), .val (.int v19), .val (.int v26), .val (.int (1 : Int32)), .val (.int (3 : Int32)), .val (.int (4 : Int32)), .val (.ref b296), .unset] [(.int v12), (.int (2 : Int32)), (.ref b296)])) _
        refine XS.i2b X305.here hx rfl (hb hby at_70) rfl ?_
        show Steps p.tables e below (T305.setTop (mkF m 71 #[.val (.int y1), .val (.int y2), .val (.int y3), .val (.int y4), .val (.int y5), .val (.int y6), .val (.int v5), .val (.int v12), .val (.int v19), .val (.int v26), .val (.int (1 : Int32)), .val (.int (3 : Int32)), .val (.int (4 : Int32)), .val (.ref b296), .unset] [(.int (v12.toInt8.toInt32)), (.int (2 : Int32)), (.ref b296)])) _
        refine st314 _ ?_
        show Steps p.tables e below (T314.setTop (mkF m 72 #[.val (.int y1), .val (.int y2), .val (.int y3), .val (.int y4), .val (.int y5), .val (.int y6), .val (.int v5), .val (.int v12), .val (.int v19), .val (.int v26), .val (.int (1 : Int32)), .val (.int (3 : Int32)), .val (.int (4 : Int32)), .val (.ref b296), .unset] [])) _
        refine XS.aload X314.here hx rfl (hb hby at_72) rfl rfl ?_
        show Steps p.tables e below (T314.setTop (mkF m 74 #[.val (.int y1), .val (.int y2), .val (.int y3), .val (.int y4), .val (.int y5), .val (.int y6), .val (.int v5), .val (.int v12), .val (.int v19), .val (.int v26), .val (.int (1 : Int32)), .val (.int (3 : Int32)), .val (.int (4 : Int32)), .val (.ref b296), .unset] [(.ref b296)])) _
        refine XS.iload X314.here hx rfl (hb hby at_74) rfl ?_
        show Steps p.tables e below (T314.setTop (mkF m 76 #[.val (.int y1), .val (.int y2), .val (.int y3), .val (.int y4), .val (.int y5), .val (.int y6), .val (.int v5), .val (.int v12), .val (.int v19), .val (.int v26), .val (.int (1 : Int32)), .val (.int (3 : Int32)), .val (.int (4 : Int32)), .val (.ref b296), .unset] [(.int (1 : Int32)), (.ref b296)])) _
        refine XS.iconst X314.here hx rfl (hb hby at_76) ?_
        show Steps p.tables e below (T314.setTop (mkF m 77 #[.val (.int y1), .val (.int y2), .val (.int y3), .val (.int y4), .val (.int y5), .val (.int y6), .val (.int v5), .val (.int v12), .val (.int v19), .val (.int v26), .val (.int (1 : Int32)), .val (.int (3 : Int32)), .val (.int (4 : Int32)), .val (.ref b296), .unset] [(.int (2 : Int32)), (.int (1 : Int32)), (.ref b296)])) _
        refine XS.iadd X314.here hx rfl (hb hby at_77) rfl ?_
        show Steps p.tables e below (T314.setTop (mkF m 78 #[.val (.int y1), .val (.int y2), .val (.int y3), .val (.int y4), .val (.int y5), .val (.int y6), .val (.int v5), .val (.int v12), .val (.int v19), .val (.int v26), .val (.int (1 : Int32)), .val (.int (3 : Int32)), .val (.int (4 : Int32)), .val (.ref b296), .unset] [(.int (3 : Int32)), (.ref b296)])) _
        refine XS.iload X314.here hx rfl (hb hby at_78) rfl ?_
        show Steps p.tables e below (T314.setTop (mkF m 80 #[.val (.int y1), .val (.int y2), .val (.int y3), .val (.int y4), .val (.int y5), .val (.int y6), .val (.int v5), .val (.int v12), .val (.int v19), .val (.int v26), .val (.int (1 : Int32)), .val (.int (3 : Int32)), .val (.int (4 : Int32)), .val (.ref b296), .unset] [(.int v19), (.int (3 : Int32)), (.ref b296)])) _
        refine XS.i2b X314.here hx rfl (hb hby at_80) rfl ?_
        show Steps p.tables e below (T314.setTop (mkF m 81 #[.val (.int y1), .val (.int y2), .val (.int y3), .val (.int y4), .val (.int y5), .val (.int y6), .val (.int v5), .val (.int v12), .val (.int v19), .val (.int v26), .val (.int (1 : Int32)), .val (.int (3 : Int32)), .val (.int (4 : Int32)), .val (.ref b296), .unset] [(.int (v19.toInt8.toInt32)), (.int (3 : Int32)), (.ref b296)])) _
        refine st323 _ ?_
        show Steps p.tables e below (T323.setTop (mkF m 82 #[.val (.int y1), .val (.int y2), .val (.int y3), .val (.int y4), .val (.int y5), .val (.int y6), .val (.int v5), .val (.int v12), .val (.int v19), .val (.int v26), .val (.int (1 : Int32)), .val (.int (3 : Int32)), .val (.int (4 : Int32)), .val (.ref b296), .unset] [])) _
        refine XS.aload X323.here hx rfl (hb hby at_82) rfl rfl ?_
        show Steps p.tables e below (T323.setTop (mkF m 84 #[.val (.int y1), .val (.int y2), .val (.int y3), .val (.int y4), .val (.int y5), .val (.int y6), .val (.int v5), .val (.int v12), .val (.int v19), .val (.int v26), .val (.int (1 : Int32)), .val (.int (3 : Int32)), .val (.int (4 : Int32)), .val (.ref b296), .unset] [(.ref b296)])) _
        refine XS.iload X323.here hx rfl (hb hby at_84) rfl ?_
        show Steps p.tables e below (T323.setTop (mkF m 86 #[.val (.int y1), .val (.int y2), .val (.int y3), .val (.int y4), .val (.int y5), .val (.int y6), .val (.int v5), .val (.int v12), .val (.int v19), .val (.int v26), .val (.int (1 : Int32)), .val (.int (3 : Int32)), .val (.int (4 : Int32)), .val (.ref b296), .unset] [(.int (1 : Int32)), (.ref b296)])) _
        refine XS.iconst X323.here hx rfl (hb hby at_86) ?_
        show Steps p.tables e below (T323.setTop (mkF m 87 #[.val (.int y1), .val (.int y2), .val (.int y3), .val (.int y4), .val (.int y5), .val (.int y6), .val (.int v5), .val (.int v12), .val (.int v19), .val (.int v26), .val (.int (1 : Int32)), .val (.int (3 : Int32)), .val (.int (4 : Int32)), .val (.ref b296), .unset] [(.int (3 : Int32)), (.int (1 : Int32)), (.ref b296)])) _
        refine XS.iadd X323.here hx rfl (hb hby at_87) rfl ?_
        show Steps p.tables e below (T323.setTop (mkF m 88 #[.val (.int y1), .val (.int y2), .val (.int y3), .val (.int y4), .val (.int y5), .val (.int y6), .val (.int v5), .val (.int v12), .val (.int v19), .val (.int v26), .val (.int (1 : Int32)), .val (.int (3 : Int32)), .val (.int (4 : Int32)), .val (.ref b296), .unset] [(.int (4 : Int32)), (.ref b296)])) _
        refine XS.iload X323.here hx rfl (hb hby at_88) rfl ?_
        show Steps p.tables e below (T323.setTop (mkF m 90 #[.val (.int y1), .val (.int y2), .val (.int y3), .val (.int y4), .val (.int y5), .val (.int y6), .val (.int v5), .val (.int v12), .val (.int v19), .val (.int v26), .val (.int (1 : Int32)), .val (.int (3 : Int32)), .val (.int (4 : Int32)), .val (.ref b296), .unset] [(.int v26), (.int (4 : Int32)), (.ref b296)])) _
        refine XS.i2b X323.here hx rfl (hb hby at_90) rfl ?_
        show Steps p.tables e below (T323.setTop (mkF m 91 #[.val (.int y1), .val (.int y2), .val (.int y3), .val (.int y4), .val (.int y5), .val (.int y6), .val (.int v5), .val (.int v12), .val (.int v19), .val (.int v26), .val (.int (1 : Int32)), .val (.int (3 : Int32)), .val (.int (4 : Int32)), .val (.ref b296), .unset] [(.int (v26.toInt8.toInt32)), (.int (4 : Int32)), (.ref b296)])) _
        refine st332 _ ?_
        show Steps p.tables e below (T332.setTop (mkF m 92 #[.val (.int y1), .val (.int y2), .val (.int y3), .val (.int y4), .val (.int y5), .val (.int y6), .val (.int v5), .val (.int v12), .val (.int v19), .val (.int v26), .val (.int (1 : Int32)), .val (.int (3 : Int32)), .val (.int (4 : Int32)), .val (.ref b296), .unset] [])) _
        refine XS.aload X332.here hx rfl (hb hby at_92) rfl rfl ?_
        show Steps p.tables e below (T332.setTop (mkF m 94 #[.val (.int y1), .val (.int y2), .val (.int y3), .val (.int y4), .val (.int y5), .val (.int y6), .val (.int v5), .val (.int v12), .val (.int v19), .val (.int v26), .val (.int (1 : Int32)), .val (.int (3 : Int32)), .val (.int (4 : Int32)), .val (.ref b296), .unset] [(.ref b296)])) _
        refine XS.iload X332.here hx rfl (hb hby at_94) rfl ?_
        show Steps p.tables e below (T332.setTop (mkF m 96 #[.val (.int y1), .val (.int y2), .val (.int y3), .val (.int y4), .val (.int y5), .val (.int y6), .val (.int v5), .val (.int v12), .val (.int v19), .val (.int v26), .val (.int (1 : Int32)), .val (.int (3 : Int32)), .val (.int (4 : Int32)), .val (.ref b296), .unset] [(.int (1 : Int32)), (.ref b296)])) _
        refine XS.iload X332.here hx rfl (hb hby at_96) rfl ?_
        show Steps p.tables e below (T332.setTop (mkF m 98 #[.val (.int y1), .val (.int y2), .val (.int y3), .val (.int y4), .val (.int y5), .val (.int y6), .val (.int v5), .val (.int v12), .val (.int v19), .val (.int v26), .val (.int (1 : Int32)), .val (.int (3 : Int32)), .val (.int (4 : Int32)), .val (.ref b296), .unset] [(.int (4 : Int32)), (.int (1 : Int32)), (.ref b296)])) _
        refine st340 _ ?_
        show Steps p.tables e below (T340.setTop (mkF m 101 #[.val (.int y1), .val (.int y2), .val (.int y3), .val (.int y4), .val (.int y5), .val (.int y6), .val (.int v5), .val (.int v12), .val (.int v19), .val (.int v26), .val (.int (1 : Int32)), .val (.int (3 : Int32)), .val (.int (4 : Int32)), .val (.ref b296), .unset] [(.int (own_cs 3 (((v5.toInt8.toInt32).toInt8.toInt32) &&& (255 : Int32)) (((v12.toInt8.toInt32).toInt8.toInt32) &&& (255 : Int32)) (((v19.toInt8.toInt32).toInt8.toInt32) &&& (255 : Int32)) (((v26.toInt8.toInt32).toInt8.toInt32) &&& (255 : Int32))))])) _
        refine XS.istore X340.here hx rfl (hb hby at_101) rfl (l' := #[.val (.int y1), .val (.int y2), .val (.int y3), .val (.int y4), .val (.int y5), .val (.int y6), .val (.int v5), .val (.int v12), .val (.int v19), .val (.int v26), .val (.int (1 : Int32)), .val (.int (3 : Int32)), .val (.int (4 : Int32)), .val (.ref b296), .val (.int (own_cs 3 (((v5.toInt8.toInt32).toInt8.toInt32) &&& (255 : Int32)) (((v12.toInt8.toInt32).toInt8.toInt32) &&& (255 : Int32)) (((v19.toInt8.toInt32).toInt8.toInt32) &&& (255 : Int32)) (((v26.toInt8.toInt32).toInt8.toInt32) &&& (255 : Int32))))]) rfl ?_
        exact k
      obtain ⟨_, _, ⟨T342, L342, k342, n342⟩, -, X342, ⟨Lc342, hQ342, l342, y342, z342⟩, st342⟩ := Jvm.LawKit.callS X340 hx (y := (⟨"com/example/stratafile/stratafile/io/Utf8CharacterSizePinLaw", "expected", "(IIIII)I"⟩ : MethodName)) hown (mvT hZ (hw _ (List.mem_of_getElem? (i := 11) rfl))) (mvT hZ (hw _ (List.mem_of_getElem? (i := 12) rfl))) (mvT hZ (hw _ (List.mem_of_getElem? (i := 13) rfl))) (mvT hZ (hw _ (List.mem_of_getElem? (i := 14) rfl))) (by decide) (backOf (W := 1) (own_rm2 l Z a0 hw [] v5 v12 v19 v26 (3 : Int32) h332 n0 Z332 ) hZ (hw _ (List.mem_of_getElem? (i := 14) rfl)) (hw _ (List.mem_of_getElem? (i := 13) rfl)) (by decide) (by decide)) (g := (mkF m 115 #[.val (.int y1), .val (.int y2), .val (.int y3), .val (.int y4), .val (.int y5), .val (.int y6), .val (.int v5), .val (.int v12), .val (.int v19), .val (.int v26), .val (.int (1 : Int32)), .val (.int (3 : Int32)), .val (.int (4 : Int32)), .val (.ref b296), .val (.int v101)] [(.int (3 : Int32)), (.int v26), (.int v19), (.int v12), (.int v5), (.int v101)])) rfl (by rw [hml]; rfl) (argsL := [(.int v5), (.int v12), (.int v19), (.int v26), (.int (3 : Int32))]) (rest := [(.int v101)]) (lenOf own_pd2 rfl) rfl (by show 2 * 0 + _ ≤ _; exact Nat.le_of_eq rfl) (hb hby at_115) (fun _ _ => ⟨rfl, eh340, (by decide : 1 + 0 ≤ _), (by decide : 5 + 0 ≤ _)⟩)
      dsimp only [Pt.U, Pt.locs, Pt.cells, Pt.slots] at X342 l342 y342 z342 st342 hQ342
      subst l342 y342 z342
      obtain ⟨rfl, N342q, eh342⟩ := hQ342
      have N342 := Fr.app N340 N342q
      have hd343 : v101 = (own_ex v5 v12 v19 v26 (3 : Int32)) := (by rw [hv101, hv5, hv12, hv19, hv26, own_bb, own_bb, own_bb, own_bb]; exact own_fin 3 _ _ _ _ _ (by decide))
      obtain ⟨fs, hr, hrun, hended, hW, hsame⟩ := X342.leave (v := some (.int (1 : Int32))) (fun h => by rw [Bd.returns] at h; cases h)
      refine ⟨_, _, pre341 _ ?_, hrun, hended, _, _, rfl, ?_, ⟨_, rfl⟩, hW, hsame.mono (by decide) (by decide)⟩
      · show Steps p.tables e below (T340.setTop (mkF m 103 #[.val (.int y1), .val (.int y2), .val (.int y3), .val (.int y4), .val (.int y5), .val (.int y6), .val (.int v5), .val (.int v12), .val (.int v19), .val (.int v26), .val (.int (1 : Int32)), .val (.int (3 : Int32)), .val (.int (4 : Int32)), .val (.ref b296), .val (.int v101)] [])) _
        refine XS.iload X340.here hx rfl (hb hby at_103) rfl ?_
        show Steps p.tables e below (T340.setTop (mkF m 105 #[.val (.int y1), .val (.int y2), .val (.int y3), .val (.int y4), .val (.int y5), .val (.int y6), .val (.int v5), .val (.int v12), .val (.int v19), .val (.int v26), .val (.int (1 : Int32)), .val (.int (3 : Int32)), .val (.int (4 : Int32)), .val (.ref b296), .val (.int v101)] [(.int v101)])) _
        refine XS.iload X340.here hx rfl (hb hby at_105) rfl ?_
        show Steps p.tables e below (T340.setTop (mkF m 107 #[.val (.int y1), .val (.int y2), .val (.int y3), .val (.int y4), .val (.int y5), .val (.int y6), .val (.int v5), .val (.int v12), .val (.int v19), .val (.int v26), .val (.int (1 : Int32)), .val (.int (3 : Int32)), .val (.int (4 : Int32)), .val (.ref b296), .val (.int v101)] [(.int v5), (.int v101)])) _
        refine XS.iload X340.here hx rfl (hb hby at_107) rfl ?_
        show Steps p.tables e below (T340.setTop (mkF m 109 #[.val (.int y1), .val (.int y2), .val (.int y3), .val (.int y4), .val (.int y5), .val (.int y6), .val (.int v5), .val (.int v12), .val (.int v19), .val (.int v26), .val (.int (1 : Int32)), .val (.int (3 : Int32)), .val (.int (4 : Int32)), .val (.ref b296), .val (.int v101)] [(.int v12), (.int v5), (.int v101)])) _
        refine XS.iload X340.here hx rfl (hb hby at_109) rfl ?_
        show Steps p.tables e below (T340.setTop (mkF m 111 #[.val (.int y1), .val (.int y2), .val (.int y3), .val (.int y4), .val (.int y5), .val (.int y6), .val (.int v5), .val (.int v12), .val (.int v19), .val (.int v26), .val (.int (1 : Int32)), .val (.int (3 : Int32)), .val (.int (4 : Int32)), .val (.ref b296), .val (.int v101)] [(.int v19), (.int v12), (.int v5), (.int v101)])) _
        refine XS.iload X340.here hx rfl (hb hby at_111) rfl ?_
        show Steps p.tables e below (T340.setTop (mkF m 113 #[.val (.int y1), .val (.int y2), .val (.int y3), .val (.int y4), .val (.int y5), .val (.int y6), .val (.int v5), .val (.int v12), .val (.int v19), .val (.int v26), .val (.int (1 : Int32)), .val (.int (3 : Int32)), .val (.int (4 : Int32)), .val (.ref b296), .val (.int v101)] [(.int v26), (.int v19), (.int v12), (.int v5), (.int v101)])) _
        refine XS.iload X340.here hx rfl (hb hby at_113) rfl ?_
        show Steps p.tables e below (T340.setTop (mkF m 115 #[.val (.int y1), .val (.int y2), .val (.int y3), .val (.int y4), .val (.int y5), .val (.int y6), .val (.int v5), .val (.int v12), .val (.int v19), .val (.int v26), .val (.int (1 : Int32)), .val (.int (3 : Int32)), .val (.int (4 : Int32)), .val (.ref b296), .val (.int v101)] [(.int (3 : Int32)), (.int v26), (.int v19), (.int v12), (.int v5), (.int v101)])) _
        refine st342 _ ?_
        show Steps p.tables e below (T342.setTop (mkF m 118 #[.val (.int y1), .val (.int y2), .val (.int y3), .val (.int y4), .val (.int y5), .val (.int y6), .val (.int v5), .val (.int v12), .val (.int v19), .val (.int v26), .val (.int (1 : Int32)), .val (.int (3 : Int32)), .val (.int (4 : Int32)), .val (.ref b296), .val (.int v101)] [(.int (own_ex v5 v12 v19 v26 (3 : Int32))), (.int v101)])) _
        refine XS.icmpNo X342.here hx rfl (hb hby at_118) rfl (teq hd343).2 ?_
        show Steps p.tables e below (T342.setTop (mkF m 121 #[.val (.int y1), .val (.int y2), .val (.int y3), .val (.int y4), .val (.int y5), .val (.int y6), .val (.int v5), .val (.int v12), .val (.int v19), .val (.int v26), .val (.int (1 : Int32)), .val (.int (3 : Int32)), .val (.int (4 : Int32)), .val (.ref b296), .val (.int v101)] [])) _
        refine XS.iconst X342.here hx rfl (hb hby at_121) ?_
        show Steps p.tables e below (T342.setTop (mkF m 122 #[.val (.int y1), .val (.int y2), .val (.int y3), .val (.int y4), .val (.int y5), .val (.int y6), .val (.int v5), .val (.int v12), .val (.int v19), .val (.int v26), .val (.int (1 : Int32)), .val (.int (3 : Int32)), .val (.int (4 : Int32)), .val (.ref b296), .val (.int v101)] [(.int (1 : Int32))])) _
        refine XS.goto X342.here hx rfl (pc0 := 122) (pc' := 126) rfl (hb hby at_122) (by decide) (by decide) ?_
        show Steps p.tables e below (T342.setTop (mkF m 126 #[.val (.int y1), .val (.int y2), .val (.int y3), .val (.int y4), .val (.int y5), .val (.int y6), .val (.int v5), .val (.int v12), .val (.int v19), .val (.int v26), .val (.int (1 : Int32)), .val (.int (3 : Int32)), .val (.int (4 : Int32)), .val (.ref b296), .val (.int v101)] [(.int (1 : Int32))])) _
        exact retN X342 hx (t := .boolean) Bd.returns (by simp) (hb hby at_126) hr
      · show own_Q0 Z y1 y2 y3 y4 y5 y6 wS cS wL cL wH cH h0 n0 _ T342.heap _
        rw [eh342]
        exact ⟨rfl, N342⟩
    · subst hs_v40
      obtain ⟨T344, h344, k344, X344, e344, E344, A344, st344⟩ := newP X0 hx hZ (hw _ (List.mem_of_getElem? (i := 0) rfl)) e0 (g := (mkF m 50 #[.val (.int y1), .val (.int y2), .val (.int y3), .val (.int y4), .val (.int y5), .val (.int y6), .val (.int v5), .val (.int v12), .val (.int v19), .val (.int v26), .val (.int (1 : Int32)), .val (.int (4 : Int32)), .val (.int (5 : Int32)), .unset, .unset] [(.int (5 : Int32))])) rfl (hb hby at_50) rfl (by decide) (cap := 5) (by decide) (by decide) (by decide) (by decide)
      obtain ⟨b344, g344⟩ : ∃ z, z = h0.size := ⟨_, rfl⟩
      rw [← g344] at A344 st344
      have ne_wS_b344 : wS ≠ b344 := Nat.ne_of_lt (Nat.lt_of_lt_of_le R_wS.lt (Nat.le_of_eq g344.symm))
      have ne_wL_b344 : wL ≠ b344 := Nat.ne_of_lt (Nat.lt_of_lt_of_le R_wL.lt (Nat.le_of_eq g344.symm))
      have ne_wH_b344 : wH ≠ b344 := Nat.ne_of_lt (Nat.lt_of_lt_of_le R_wH.lt (Nat.le_of_eq g344.symm))
      have g_b344 : n0 ≤ b344 := Nat.le_trans Z0 (Nat.le_of_eq g344.symm)
      have sz_b344 : h0.size ≤ b344 := Nat.le_trans K0.1 (Nat.le_of_eq g344.symm)
      have K344 : Keep h0 h344 [] := K0.ext E344
      have F345 : Sta Z h344 "com/example/stratafile/stratafile/io/Utf8" "SIZES" "[B" (.ref wS) := S_SIZES.ext E344
      have F346 : Arr Z h344 wS cS .byte := R_wS.ext E344
      have F347 : Sta Z h344 "com/example/stratafile/stratafile/io/Utf8" "SECOND_LOWEST" "[I" (.ref wL) := S_SECOND_LOWEST.ext E344
      have F348 : Arr Z h344 wL cL .int := R_wL.ext E344
      have F349 : Sta Z h344 "com/example/stratafile/stratafile/io/Utf8" "SECOND_HIGHEST" "[I" (.ref wH) := S_SECOND_HIGHEST.ext E344
      have F350 : Arr Z h344 wH cH .int := R_wH.ext E344
      have Z344 : n0 ≤ h344.size := Nat.le_trans Z0 E344.1
      have F351 : Arv Z h344 b344 k344 .byte (5 : Int32) [(.int (0 : Int32)), (.int (0 : Int32)), (.int (0 : Int32)), (.int (0 : Int32)), (.int (0 : Int32))] (.int (0 : Int32)) := (Arv.new A344 (by decide)).pad (pad_rep [] (.int (0 : Int32)) 5)
      obtain ⟨cl352, Ar352, q352, S352, M352, H352, G352⟩ := id F351
      obtain ⟨T353, h353, X353, e353, W353, st353⟩ := stB X344 hx hZ e344 Ar352 (j := (1 : Int32)) (inb_of S352 ⟨by decide, by decide⟩) (g := (mkF m 61 #[.val (.int y1), .val (.int y2), .val (.int y3), .val (.int y4), .val (.int y5), .val (.int y6), .val (.int v5), .val (.int v12), .val (.int v19), .val (.int v26), .val (.int (1 : Int32)), .val (.int (4 : Int32)), .val (.int (5 : Int32)), .val (.ref b344), .unset] [(.int (v5.toInt8.toInt32)), (.int (1 : Int32)), (.ref b344)])) rfl rfl (hb hby at_61)
      have F354 : Arv Z h353 b344 k344 .byte (5 : Int32) [(.int (0 : Int32)), (.int ((v5.toInt8.toInt32).toInt8.toInt32)), (.int (0 : Int32)), (.int (0 : Int32)), (.int (0 : Int32))] (.int (0 : Int32)) := Arv.set Ar352 q352 S352 M352 H352 G352 (fits_nar_byte _) W353 1 rfl (Nat.le_of_ble_eq_true rfl)
      have F355 : Sta Z h353 "com/example/stratafile/stratafile/io/Utf8" "SIZES" "[B" (.ref wS) := F345.wr W353
      have F356 : Sta Z h353 "com/example/stratafile/stratafile/io/Utf8" "SECOND_LOWEST" "[I" (.ref wL) := F347.wr W353
      have F357 : Sta Z h353 "com/example/stratafile/stratafile/io/Utf8" "SECOND_HIGHEST" "[I" (.ref wH) := F349.wr W353
      have N353 := Fr.snoc X353 N0 g_b344
      have Z353 : n0 ≤ h353.size := Nat.le_trans Z344 (Keep.of_wr W353).1
      have K353 : Keep h0 h353 [] := K344.wr W353 (Or.inr sz_b344)
      have F358 : Arr Z h353 wS cS .byte := R_wS.ext (own_ext K353)
      have F359 : Arr Z h353 wL cL .int := R_wL.ext (own_ext K353)
      have F360 : Arr Z h353 wH cH .int := R_wH.ext (own_ext K353)
      obtain ⟨cl361, Ar361, q361, S361, M361, H361, G361⟩ := id F354
      obtain ⟨T362, h362, X362, e362, W362, st362⟩ := stB X353 hx hZ e353 Ar361 (j := (2 : Int32)) (inb_of S361 ⟨by decide, by decide⟩) (g := (mkF m 71 #[.val (.int y1), .val (.int y2), .val (.int y3), .val (.int y4), .val (.int y5), .val (.int y6), .val (.int v5), .val (.int v12), .val (.int v19), .val (.int v26), .val (.int (1 : Int32)), .val (.int (4 : Int32)), .val (.int (5 : Int32)), .val (.ref b344), .unset] [(.int (v12.toInt8.toInt32)), (.int (2 : Int32)), (.ref b344)])) rfl rfl (hb hby at_71)
      have F363 : Arv Z h362 b344 k344 .byte (5 : Int32) [(.int (0 : Int32)), (.int ((v5.toInt8.toInt32).toInt8.toInt32)), (.int ((v12.toInt8.toInt32).toInt8.toInt32)), (.int (0 : Int32)), (.int (0 : Int32))] (.int (0 : Int32)) := Arv.set Ar361 q361 S361 M361 H361 G361 (fits_nar_byte _) W362 2 rfl (Nat.le_of_ble_eq_true rfl)
      have F364 : Sta Z h362 "com/example/stratafile/stratafile/io/Utf8" "SIZES" "[B" (.ref wS) := F355.wr W362
      have F365 : Sta Z h362 "com/example/stratafile/stratafile/io/Utf8" "SECOND_LOWEST" "[I" (.ref wL) := F356.wr W362
      have F366 : Sta Z h362 "com/example/stratafile/stratafile/io/Utf8" "SECOND_HIGHEST" "[I" (.ref wH) := F357.wr W362
      have N362 := Fr.snoc X362 N353 g_b344
      have Z362 : n0 ≤ h362.size := Nat.le_trans Z353 (Keep.of_wr W362).1
      have K362 : Keep h0 h362 [] := K353.wr W362 (Or.inr sz_b344)
      have F367 : Arr Z h362 wS cS .byte := R_wS.ext (own_ext K362)
      have F368 : Arr Z h362 wL cL .int := R_wL.ext (own_ext K362)
      have F369 : Arr Z h362 wH cH .int := R_wH.ext (own_ext K362)
      obtain ⟨cl370, Ar370, q370, S370, M370, H370, G370⟩ := id F363
      obtain ⟨T371, h371, X371, e371, W371, st371⟩ := stB X362 hx hZ e362 Ar370 (j := (3 : Int32)) (inb_of S370 ⟨by decide, by decide⟩) (g := (mkF m 81 #[.val (.int y1), .val (.int y2), .val (.int y3), .val (.int y4), .val (.int y5), .val (.int y6), .val (.int v5), .val (.int v12), .val (.int v19), .val (.int v26), .val (.int (1 : Int32)), .val (.int (4 : Int32)), .val (.int (5 : Int32)), .val (.ref b344), .unset] [(.int (v19.toInt8.toInt32)), (.int (3 : Int32)), (.ref b344)])) rfl rfl (hb hby at_81)
      have F372 : Arv Z h371 b344 k344 .byte (5 : Int32) [(.int (0 : Int32)), (.int ((v5.toInt8.toInt32).toInt8.toInt32)), (.int ((v12.toInt8.toInt32).toInt8.toInt32)), (.int ((v19.toInt8.toInt32).toInt8.toInt32)), (.int (0 : Int32))] (.int (0 : Int32)) := Arv.set Ar370 q370 S370 M370 H370 G370 (fits_nar_byte _) W371 3 rfl (Nat.le_of_ble_eq_true rfl)
      have F373 : Sta Z h371 "com/example/stratafile/stratafile/io/Utf8" "SIZES" "[B" (.ref wS) := F364.wr W371
      have F374 : Sta Z h371 "com/example/stratafile/stratafile/io/Utf8" "SECOND_LOWEST" "[I" (.ref wL) := F365.wr W371
      have F375 : Sta Z h371 "com/example/stratafile/stratafile/io/Utf8" "SECOND_HIGHEST" "[I" (.ref wH) := F366.wr W371
      have N371 := Fr.snoc X371 N362 g_b344
      have Z371 : n0 ≤ h371.size := Nat.le_trans Z362 (Keep.of_wr W371).1
      have K371 : Keep h0 h371 [] := K362.wr W371 (Or.inr sz_b344)
      have F376 : Arr Z h371 wS cS .byte := R_wS.ext (own_ext K371)
      have F377 : Arr Z h371 wL cL .int := R_wL.ext (own_ext K371)
      have F378 : Arr Z h371 wH cH .int := R_wH.ext (own_ext K371)
      obtain ⟨cl379, Ar379, q379, S379, M379, H379, G379⟩ := id F372
      obtain ⟨T380, h380, X380, e380, W380, st380⟩ := stB X371 hx hZ e371 Ar379 (j := (4 : Int32)) (inb_of S379 ⟨by decide, by decide⟩) (g := (mkF m 91 #[.val (.int y1), .val (.int y2), .val (.int y3), .val (.int y4), .val (.int y5), .val (.int y6), .val (.int v5), .val (.int v12), .val (.int v19), .val (.int v26), .val (.int (1 : Int32)), .val (.int (4 : Int32)), .val (.int (5 : Int32)), .val (.ref b344), .unset] [(.int (v26.toInt8.toInt32)), (.int (4 : Int32)), (.ref b344)])) rfl rfl (hb hby at_91)
      have F381 : Arv Z h380 b344 k344 .byte (5 : Int32) [(.int (0 : Int32)), (.int ((v5.toInt8.toInt32).toInt8.toInt32)), (.int ((v12.toInt8.toInt32).toInt8.toInt32)), (.int ((v19.toInt8.toInt32).toInt8.toInt32)), (.int ((v26.toInt8.toInt32).toInt8.toInt32))] (.int (0 : Int32)) := Arv.set Ar379 q379 S379 M379 H379 G379 (fits_nar_byte _) W380 4 rfl (Nat.le_of_ble_eq_true rfl)
      have F382 : Sta Z h380 "com/example/stratafile/stratafile/io/Utf8" "SIZES" "[B" (.ref wS) := F373.wr W380
      have F383 : Sta Z h380 "com/example/stratafile/stratafile/io/Utf8" "SECOND_LOWEST" "[I" (.ref wL) := F374.wr W380
      have F384 : Sta Z h380 "com/example/stratafile/stratafile/io/Utf8" "SECOND_HIGHEST" "[I" (.ref wH) := F375.wr W380
      have N380 := Fr.snoc X380 N371 g_b344
      have Z380 : n0 ≤ h380.size := Nat.le_trans Z371 (Keep.of_wr W380).1
      have K380 : Keep h0 h380 [] := K371.wr W380 (Or.inr sz_b344)
      have F385 : Arr Z h380 wS cS .byte := R_wS.ext (own_ext K380)
      have F386 : Arr Z h380 wL cL .int := R_wL.ext (own_ext K380)
      have F387 : Arr Z h380 wH cH .int := R_wH.ext (own_ext K380)
      obtain ⟨_, _, ⟨T388, L388, k388, n388⟩, -, X388, ⟨Lc388, hQ388, l388, y388, z388⟩, st388⟩ := Jvm.LawKit.callS X380 hx (y := (⟨"com/example/stratafile/stratafile/io/Utf8", "characterSize", "([BII)I"⟩ : MethodName)) hown (mvT hZ (hw _ (List.mem_of_getElem? (i := 1) rfl))) (mvT hZ (hw _ (List.mem_of_getElem? (i := 2) rfl))) (mvT hZ (hw _ (List.mem_of_getElem? (i := 3) rfl))) (mvT hZ (hw _ (List.mem_of_getElem? (i := 4) rfl))) (by decide) (backOf (W := 0) (own_rm1_1_4 l Z a0 hw [] b344 k344 (0 : Int32) ((v5.toInt8.toInt32).toInt8.toInt32) ((v12.toInt8.toInt32).toInt8.toInt32) ((v19.toInt8.toInt32).toInt8.toInt32) ((v26.toInt8.toInt32).toInt8.toInt32) wS cS wL cL wH cH h380 n0 Z380 F381 F382 F385 F383 F386 F384 F387 (szcS) (tacS) (szcL) (tacL) (szcH) (tacH)) hZ (hw _ (List.mem_of_getElem? (i := 4) rfl)) (hw _ (List.mem_of_getElem? (i := 3) rfl)) (by decide) (by decide)) (g := (mkF m 98 #[.val (.int y1), .val (.int y2), .val (.int y3), .val (.int y4), .val (.int y5), .val (.int y6), .val (.int v5), .val (.int v12), .val (.int v19), .val (.int v26), .val (.int (1 : Int32)), .val (.int (4 : Int32)), .val (.int (5 : Int32)), .val (.ref b344), .unset] [(.int (5 : Int32)), (.int (1 : Int32)), (.ref b344)])) rfl (by rw [hml]; rfl) (argsL := [(.ref b344), (.int (1 : Int32)), (.int (5 : Int32))]) (rest := []) (lenOf own_pd1 rfl) rfl (by show 2 * 0 + _ ≤ _; exact Nat.le_of_eq rfl) (hb hby at_98) (fun _ _ => ⟨rfl, e380, (by decide : 1 + 0 ≤ _), (by decide : 5 + 0 ≤ _)⟩)
      dsimp only [Pt.U, Pt.locs, Pt.cells, Pt.slots] at X388 l388 y388 z388 st388 hQ388
      subst l388 y388 z388
      obtain ⟨rfl, N388q, eh388⟩ := hQ388
      have N388 := Fr.app N380 N388q
      obtain ⟨v101, hv101⟩ : ∃ w : Int32, w = (own_cs 4 (((v5.toInt8.toInt32).toInt8.toInt32) &&& (255 : Int32)) (((v12.toInt8.toInt32).toInt8.toInt32) &&& (255 : Int32)) (((v19.toInt8.toInt32).toInt8.toInt32) &&& (255 : Int32)) (((v26.toInt8.toInt32).toInt8.toInt32) &&& (255 : Int32))) := ⟨_, rfl⟩
      have pre389 : ∀ t, Steps p.tables e below (T388.setTop (mkF m 103 #[.val (.int y1), .val (.int y2), .val (.int y3), .val (.int y4), .val (.int y5), .val (.int y6), .val (.int v5), .val (.int v12), .val (.int v19), .val (.int v26), .val (.int (1 : Int32)), .val (.int (4 : Int32)), .val (.int (5 : Int32)), .val (.ref b344), .val (.int v101)] [])) t → Steps p.tables e below (s₁.setTop (entryFrame m #[(.int y1), (.int y2), (.int y3), (.int y4), (.int y5), (.int y6)] maxLocals)) t := by
        intro t k
        rw [hv101] at k
        refine pre199 _ ?_
        show Steps p.tables e below (s₁.setTop (mkF m 42 #[.val (.int y1), .val (.int y2), .val (.int y3), .val (.int y4), .val (.int y5), .val (.int y6), .val (.int v5), .val (.int v12), .val (.int v19), .val (.int v26), .val (.int (1 : Int32)), .val (.int (4 : Int32)), .unset, .unset, .unset] [])) _
        refine XS.iload X0.here hx rfl (hb hby at_42) rfl ?_
        show Steps p.tables e below (s₁.setTop (mkF m 44 #[.val (.int y1), .val (.int y2), .val (.int y3), .val (.int y4), .val (.int y5), .val (.int y6), .val (.int v5), .val (.int v12), .val (.int v19), .val (.int v26), .val (.int (1 : Int32)), .val (.int (4 : Int32)), .unset, .unset, .unset] [(.int (1 : Int32))])) _
        refine XS.iload X0.here hx rfl (hb hby at_44) rfl ?_
        show Steps p.tables e below (s₁.setTop (mkF m 46 #[.val (.int y1), .val (.int y2), .val (.int y3), .val (.int y4), .val (.int y5), .val (.int y6), .val (.int v5), .val (.int v12), .val (.int v19), .val (.int v26), .val (.int (1 : Int32)), .val (.int (4 : Int32)), .unset, .unset, .unset] [(.int (4 : Int32)), (.int (1 : Int32))])) _
        refine XS.iadd X0.here hx rfl (hb hby at_46) rfl ?_
        show Steps p.tables e below (s₁.setTop (mkF m 47 #[.val (.int y1), .val (.int y2), .val (.int y3), .val (.int y4), .val (.int y5), .val (.int y6), .val (.int v5), .val (.int v12), .val (.int v19), .val (.int v26), .val (.int (1 : Int32)), .val (.int (4 : Int32)), .unset, .unset, .unset] [(.int (5 : Int32))])) _
        refine XS.istore X0.here hx rfl (hb hby at_47) rfl (l' := #[.val (.int y1), .val (.int y2), .val (.int y3), .val (.int y4), .val (.int y5), .val (.int y6), .val (.int v5), .val (.int v12), .val (.int v19), .val (.int v26), .val (.int (1 : Int32)), .val (.int (4 : Int32)), .val (.int (5 : Int32)), .unset, .unset]) rfl ?_
        show Steps p.tables e below (s₁.setTop (mkF m 49 #[.val (.int y1), .val (.int y2), .val (.int y3), .val (.int y4), .val (.int y5), .val (.int y6), .val (.int v5), .val (.int v12), .val (.int v19), .val (.int v26), .val (.int (1 : Int32)), .val (.int (4 : Int32)), .val (.int (5 : Int32)), .unset, .unset] [])) _
        refine XS.iconst X0.here hx rfl (hb hby at_49) ?_
        show Steps p.tables e below (s₁.setTop (mkF m 50 #[.val (.int y1), .val (.int y2), .val (.int y3), .val (.int y4), .val (.int y5), .val (.int y6), .val (.int v5), .val (.int v12), .val (.int v19), .val (.int v26), .val (.int (1 : Int32)), .val (.int (4 : Int32)), .val (.int (5 : Int32)), .unset, .unset] [(.int (5 : Int32))])) _
        refine st344 _ ?_
        show Steps p.tables e below (T344.setTop (mkF m 52 #[.val (.int y1), .val (.int y2), .val (.int y3), .val (.int y4), .val (.int y5), .val (.int y6), .val (.int v5), .val (.int v12), .val (.int v19), .val (.int v26), .val (.int (1 : Int32)), .val (.int (4 : Int32)), .val (.int (5 : Int32)), .unset, .unset] [(.ref b344)])) _
        refine XS.astore X344.here hx rfl (hb hby at_52) rfl rfl (l' := #[.val (.int y1), .val (.int y2), .val (.int y3), .val (.int y4), .val (.int y5), .val (.int y6), .val (.int v5), .val (.int v12), .val (.int v19), .val (.int v26), .val (.int (1 : Int32)), .val (.int (4 : Int32)), .val (.int (5 : Int32)), .val (.ref b344), .unset]) rfl ?_
        show Steps p.tables e below (T344.setTop (mkF m 54 #[.val (.int y1), .val (.int y2), .val (.int y3), .val (.int y4), .val (.int y5), .val (.int y6), .val (.int v5), .val (.int v12), .val (.int v19), .val (.int v26), .val (.int (1 : Int32)), .val (.int (4 : Int32)), .val (.int (5 : Int32)), .val (.ref b344), .unset] [])) _
        refine XS.aload X344.here hx rfl (hb hby at_54) rfl rfl ?_
        show Steps p.tables e below (T344.setTop (mkF m 56 #[.val (.int y1), .val (.int y2), .val (.int y3), .val (.int y4), .val (.int y5), .val (.int y6), .val (.int v5), .val (.int v12), .val (.int v19), .val (.int v26), .val (.int (1 : Int32)), .val (.int (4 : Int32)), .val (.int (5 : Int32)), .val (.ref b344), .unset] [(.ref b344)])) _
        refine XS.iload X344.here hx rfl (hb hby at_56) rfl ?_
        show Steps p.tables e below (T344.setTop (mkF m 58 #[.val (.int y1), .val (.int y2), .val (.int y3), .val (.int y4), .val (.int y5), .val (.int y6), .val (.int v5), .val (.int v12), .val (.int v19), .val (.int v26), .val (.int (1 : Int32)), .val (.int (4 : Int32)), .val (.int (5 : Int32)), .val (.ref b344), .unset] [(.int (1 : Int32)), (.ref b344)])) _
        refine XS.iload X344.here hx rfl (hb hby at_58) rfl ?_
        show Steps p.tables e below (T344.setTop (mkF m 60 #[.val (.int y1), .val (.int y2), .val (.int y3), .val (.int y4), .val (.int y5), .val (.int y6), .val (.int v5), .val (.int v12), .val (.int v19), .val (.int v26), .val (.int (1 : Int32)), .val (.int (4 : Int32)), .val (.int (5 : Int32)), .val (.ref b344), .unset] [(.int v5), (.int (1 : Int32)), (.ref b344)])) _
        refine XS.i2b X344.here hx rfl (hb hby at_60) rfl ?_
        show Steps p.tables e below (T344.setTop (mkF m 61 #[.val (.int y1), .val (.int y2), .val (.int y3), .val (.int y4), .val (.int y5), .val (.int y6), .val (.int v5), .val (.int v12), .val (.int v19), .val (.int v26), .val (.int (1 : Int32)), .val (.int (4 : Int32)), .val (.int (5 : Int32)), .val (.ref b344), .unset] [(.int (v5.toInt8.toInt32)), (.int (1 : Int32)), (.ref b344)])) _
        refine st353 _ ?_
        show Steps p.tables e below (T353.setTop (mkF m 62 #[.val (.int y1), .val (.int y2), .val (.int y3), .val (.int y4), .val (.int y5), .val (.int y6), .val (.int v5), .val (.int v12), .val (.int v19), .val (.int v26), .val (.int (1 : Int32)), .val (.int (4 : Int32)), .val (.int (5 : Int32)), .val (.ref b344), .unset] [])) _
        refine XS.aload X353.here hx rfl (hb hby at_62) rfl rfl ?_
        show Steps p.tables e below (T353.setTop (mkF m 64 #[.val (.int y1), .val (.int y2), .val (.int y3), .val (.int y4), .val (.int y5), .val (.int y6), .val (.int v5), .val (.int v12), .val (.int v19), .val (.int v26), .val (.int (1 : Int32)), .val (.int (4 : Int32)), .val (.int (5 : Int32)), .val (.ref b344), .unset] [(.ref b344)])) _
        refine XS.iload X353.here hx rfl (hb hby at_64) rfl ?_
        show Steps p.tables e below (T353.setTop (mkF m 66 #[.val (.int y1), .val (.int y2), .val (.int y3), .val (.int y4), .val (.int y5), .val (.int y6), .val (.int v5), .val (.int v12), .val (.int v19), .val (.int v26), .val (.int (1 : Int32)), .val (.int (4 : Int32)), .val (.int (5 : Int32)), .val (.ref b344), .unset] [(.int (1 : Int32)), (.ref b344)])) _
        refine XS.iconst X353.here hx rfl (hb hby at_66) ?_
        show Steps p.tables e below (T353.setTop (mkF m 67 #[.val (.int y1), .val (.int y2), .val (.int y3), .val (.int y4), .val (.int y5), .val (.int y6), .val (.int v5), .val (.int v12), .val (.int v19), .val (.int v26), .val (.int (1 : Int32)), .val (.int (4 : Int32)), .val (.int (5 : Int32)), .val (.ref b344), .unset] [(.int (1 : Int32)), (.int (1 : Int32)), (.ref b344)])) _
        refine XS.iadd X353.here hx rfl (hb hby at_67) rfl ?_
        show Steps p.tables e below (T353.setTop (mkF m 68 #[.val (.int y1), .val (.int y2), .val (.int y3), .val (.int y4), .val (.int y5), .val (.int y6), .val (.int v5), .val (.int v12), .val (.int v19), .val (.int v26), .val (.int (1 : Int32)), .val (.int (4 : Int32)), .val (.int (5 : Int32)), .val (.ref b344), .unset] [(.int (2 : Int32)), (.ref b344)])) _
        refine XS.iload X353.here hx rfl (hb hby at_68) rfl ?_
        show Steps p.tables e below (T353.setTop (mkF m 70 #[.val (.int y1), .val (.int y2), .val (.int y3), .val (.int y4), .val (.int y5), .val (.int y6), .val (.int v5), .val (.int v12), .val (.int v19), .val (.int v26), .val (.int (1 : Int32)), .val (.int (4 : Int32)), .val (.int (5 : Int32)), .val (.ref b344), .unset] [(.int v12), (.int (2 : Int32)), (.ref b344)])) _
        refine XS.i2b X353.here hx rfl (hb hby at_70) rfl ?_
        show Steps p.tables e below (T353.setTop (mkF m 71 #[.val (.int y1), .val (.int y2), .val (.int y3), .val (.int y4), .val (.int y5), .val (.int y6), .val (.int v5), .val (.int v12), .val (.int v19), .val (.int v26), .val (.int (1 : Int32)), .val (.int (4 : Int32)), .val (.int (5 : Int32)), .val (.ref b344), .unset] [(.int (v12.toInt8.toInt32)), (.int (2 : Int32)), (.ref b344)])) _
        refine st362 _ ?_
        show Steps p.tables e below (T362.setTop (mkF m 72 #[.val (.int y1), .val (.int y2), .val (.int y3), .val (.int y4), .val (.int y5), .val (.int y6), .val (.int v5), .val (.int v12), .val (.int v19), .val (.int v26), .val (.int (1 : Int32)), .val (.int (4 : Int32)), .val (.int (5 : Int32)), .val (.ref b344), .unset] [])) _
        refine XS.aload X362.here hx rfl (hb hby at_72) rfl rfl ?_
        show Steps p.tables e below (T362.setTop (mkF m 74 #[.val (.int y1), .val (.int y2), .val (.int y3), .val (.int y4), .val (.int y5), .val (.int y6), .val (.int v5), .val (.int v12), .val (.int v19), .val (.int v26), .val (.int (1 : Int32)), .val (.int (4 : Int32)), .val (.int (5 : Int32)), .val (.ref b344), .unset] [(.ref b344)])) _
        refine XS.iload X362.here hx rfl (hb hby at_74) rfl ?_
        show Steps p.tables e below (T362.setTop (mkF m 76 #[.val (.int y1), .val (.int y2), .val (.int y3), .val (.int y4), .val (.int y5), .val (.int y6), .val (.int v5), .val (.int v12), .val (.int v19), .val (.int v26), .val (.int (1 : Int32)), .val (.int (4 : Int32)), .val (.int (5 : Int32)), .val (.ref b344), .unset] [(.int (1 : Int32)), (.ref b344)])) _
        refine XS.iconst X362.here hx rfl (hb hby at_76) ?_
        show Steps p.tables e below (T362.setTop (mkF m 77 #[.val (.int y1), .val (.int y2), .val (.int y3), .val (.int y4), .val (.int y5), .val (.int y6), .val (.int v5), .val (.int v12), .val (.int v19), .val (.int v26), .val (.int (1 : Int32)), .val (.int (4 : Int32)), .val (.int (5 : Int32)), .val (.ref b344), .unset] [(.int (2 : Int32)), (.int (1 : Int32)), (.ref b344)])) _
        refine XS.iadd X362.here hx rfl (hb hby at_77) rfl ?_
        show Steps p.tables e below (T362.setTop (mkF m 78 #[.val (.int y1), .val (.int y2), .val (.int y3), .val (.int y4), .val (.int y5), .val (.int y6), .val (.int v5), .val (.int v12), .val (.int v19), .val (.int v26), .val (.int (1 : Int32)), .val (.int (4 : Int32)), .val (.int (5 : Int32)), .val (.ref b344), .unset] [(.int (3 : Int32)), (.ref b344)])) _
        refine XS.iload X362.here hx rfl (hb hby at_78) rfl ?_
        show Steps p.tables e below (T362.setTop (mkF m 80 #[.val (.int y1), .val (.int y2), .val (.int y3), .val (.int y4), .val (.int y5), .val (.int y6), .val (.int v5), .val (.int v12), .val (.int v19), .val (.int v26), .val (.int (1 : Int32)), .val (.int (4 : Int32)), .val (.int (5 : Int32)), .val (.ref b344), .unset] [(.int v19), (.int (3 : Int32)), (.ref b344)])) _
        refine XS.i2b X362.here hx rfl (hb hby at_80) rfl ?_
        show Steps p.tables e below (T362.setTop (mkF m 81 #[.val (.int y1), .val (.int y2), .val (.int y3), .val (.int y4), .val (.int y5), .val (.int y6), .val (.int v5), .val (.int v12), .val (.int v19), .val (.int v26), .val (.int (1 : Int32)), .val (.int (4 : Int32)), .val (.int (5 : Int32)), .val (.ref b344), .unset] [(.int (v19.toInt8.toInt32)), (.int (3 : Int32)), (.ref b344)])) _
        refine st371 _ ?_
        show Steps p.tables e below (T371.setTop (mkF m 82 #[.val (.int y1), .val (.int y2), .val (.int y3), .val (.int y4), .val (.int y5), .val (.int y6), .val (.int v5), .val (.int v12), .val (.int v19), .val (.int v26), .val (.int (1 : Int32)), .val (.int (4 : Int32)), .val (.int (5 : Int32)), .val (.ref b344), .unset] [])) _
        refine XS.aload X371.here hx rfl (hb hby at_82) rfl rfl ?_
        show Steps p.tables e below (T371.setTop (mkF m 84 #[.val (.int y1), .val (.int y2), .val (.int y3), .val (.int y4), .val (.int y5), .val (.int y6), .val (.int v5), .val (.int v12), .val (.int v19), .val (.int v26), .val (.int (1 : Int32)), .val (.int (4 : Int32)), .val (.int (5 : Int32)), .val (.ref b344), .unset] [(.ref b344)])) _
        refine XS.iload X371.here hx rfl (hb hby at_84) rfl ?_
        show Steps p.tables e below (T371.setTop (mkF m 86 #[.val (.int y1), .val (.int y2), .val (.int y3), .val (.int y4), .val (.int y5), .val (.int y6), .val (.int v5), .val (.int v12), .val (.int v19), .val (.int v26), .val (.int (1 : Int32)), .val (.int (4 : Int32)), .val (.int (5 : Int32)), .val (.ref b344), .unset] [(.int (1 : Int32)), (.ref b344)])) _
        refine XS.iconst X371.here hx rfl (hb hby at_86) ?_
        show Steps p.tables e below (T371.setTop (mkF m 87 #[.val (.int y1), .val (.int y2), .val (.int y3), .val (.int y4), .val (.int y5), .val (.int y6), .val (.int v5), .val (.int v12), .val (.int v19), .val (.int v26), .val (.int (1 : Int32)), .val (.int (4 : Int32)), .val (.int (5 : Int32)), .val (.ref b344), .unset] [(.int (3 : Int32)), (.int (1 : Int32)), (.ref b344)])) _
        refine XS.iadd X371.here hx rfl (hb hby at_87) rfl ?_
        show Steps p.tables e below (T371.setTop (mkF m 88 #[.val (.int y1), .val (.int y2), .val (.int y3), .val (.int y4), .val (.int y5), .val (.int y6), .val (.int v5), .val (.int v12), .val (.int v19), .val (.int v26), .val (.int (1 : Int32)), .val (.int (4 : Int32)), .val (.int (5 : Int32)), .val (.ref b344), .unset] [(.int (4 : Int32)), (.ref b344)])) _
        refine XS.iload X371.here hx rfl (hb hby at_88) rfl ?_
        show Steps p.tables e below (T371.setTop (mkF m 90 #[.val (.int y1), .val (.int y2), .val (.int y3), .val (.int y4), .val (.int y5), .val (.int y6), .val (.int v5), .val (.int v12), .val (.int v19), .val (.int v26), .val (.int (1 : Int32)), .val (.int (4 : Int32)), .val (.int (5 : Int32)), .val (.ref b344), .unset] [(.int v26), (.int (4 : Int32)), (.ref b344)])) _
        refine XS.i2b X371.here hx rfl (hb hby at_90) rfl ?_
        show Steps p.tables e below (T371.setTop (mkF m 91 #[.val (.int y1), .val (.int y2), .val (.int y3), .val (.int y4), .val (.int y5), .val (.int y6), .val (.int v5), .val (.int v12), .val (.int v19), .val (.int v26), .val (.int (1 : Int32)), .val (.int (4 : Int32)), .val (.int (5 : Int32)), .val (.ref b344), .unset] [(.int (v26.toInt8.toInt32)), (.int (4 : Int32)), (.ref b344)])) _
        refine st380 _ ?_
        show Steps p.tables e below (T380.setTop (mkF m 92 #[.val (.int y1), .val (.int y2), .val (.int y3), .val (.int y4), .val (.int y5), .val (.int y6), .val (.int v5), .val (.int v12), .val (.int v19), .val (.int v26), .val (.int (1 : Int32)), .val (.int (4 : Int32)), .val (.int (5 : Int32)), .val (.ref b344), .unset] [])) _
        refine XS.aload X380.here hx rfl (hb hby at_92) rfl rfl ?_
        show Steps p.tables e below (T380.setTop (mkF m 94 #[.val (.int y1), .val (.int y2), .val (.int y3), .val (.int y4), .val (.int y5), .val (.int y6), .val (.int v5), .val (.int v12), .val (.int v19), .val (.int v26), .val (.int (1 : Int32)), .val (.int (4 : Int32)), .val (.int (5 : Int32)), .val (.ref b344), .unset] [(.ref b344)])) _
        refine XS.iload X380.here hx rfl (hb hby at_94) rfl ?_
        show Steps p.tables e below (T380.setTop (mkF m 96 #[.val (.int y1), .val (.int y2), .val (.int y3), .val (.int y4), .val (.int y5), .val (.int y6), .val (.int v5), .val (.int v12), .val (.int v19), .val (.int v26), .val (.int (1 : Int32)), .val (.int (4 : Int32)), .val (.int (5 : Int32)), .val (.ref b344), .unset] [(.int (1 : Int32)), (.ref b344)])) _
        refine XS.iload X380.here hx rfl (hb hby at_96) rfl ?_
        show Steps p.tables e below (T380.setTop (mkF m 98 #[.val (.int y1), .val (.int y2), .val (.int y3), .val (.int y4), .val (.int y5), .val (.int y6), .val (.int v5), .val (.int v12), .val (.int v19), .val (.int v26), .val (.int (1 : Int32)), .val (.int (4 : Int32)), .val (.int (5 : Int32)), .val (.ref b344), .unset] [(.int (5 : Int32)), (.int (1 : Int32)), (.ref b344)])) _
        refine st388 _ ?_
        show Steps p.tables e below (T388.setTop (mkF m 101 #[.val (.int y1), .val (.int y2), .val (.int y3), .val (.int y4), .val (.int y5), .val (.int y6), .val (.int v5), .val (.int v12), .val (.int v19), .val (.int v26), .val (.int (1 : Int32)), .val (.int (4 : Int32)), .val (.int (5 : Int32)), .val (.ref b344), .unset] [(.int (own_cs 4 (((v5.toInt8.toInt32).toInt8.toInt32) &&& (255 : Int32)) (((v12.toInt8.toInt32).toInt8.toInt32) &&& (255 : Int32)) (((v19.toInt8.toInt32).toInt8.toInt32) &&& (255 : Int32)) (((v26.toInt8.toInt32).toInt8.toInt32) &&& (255 : Int32))))])) _
        refine XS.istore X388.here hx rfl (hb hby at_101) rfl (l' := #[.val (.int y1), .val (.int y2), .val (.int y3), .val (.int y4), .val (.int y5), .val (.int y6), .val (.int v5), .val (.int v12), .val (.int v19), .val (.int v26), .val (.int (1 : Int32)), .val (.int (4 : Int32)), .val (.int (5 : Int32)), .val (.ref b344), .val (.int (own_cs 4 (((v5.toInt8.toInt32).toInt8.toInt32) &&& (255 : Int32)) (((v12.toInt8.toInt32).toInt8.toInt32) &&& (255 : Int32)) (((v19.toInt8.toInt32).toInt8.toInt32) &&& (255 : Int32)) (((v26.toInt8.toInt32).toInt8.toInt32) &&& (255 : Int32))))]) rfl ?_
        exact k
      obtain ⟨_, _, ⟨T390, L390, k390, n390⟩, -, X390, ⟨Lc390, hQ390, l390, y390, z390⟩, st390⟩ := Jvm.LawKit.callS X388 hx (y := (⟨"com/example/stratafile/stratafile/io/Utf8CharacterSizePinLaw", "expected", "(IIIII)I"⟩ : MethodName)) hown (mvT hZ (hw _ (List.mem_of_getElem? (i := 11) rfl))) (mvT hZ (hw _ (List.mem_of_getElem? (i := 12) rfl))) (mvT hZ (hw _ (List.mem_of_getElem? (i := 13) rfl))) (mvT hZ (hw _ (List.mem_of_getElem? (i := 14) rfl))) (by decide) (backOf (W := 1) (own_rm2 l Z a0 hw [] v5 v12 v19 v26 (4 : Int32) h380 n0 Z380 ) hZ (hw _ (List.mem_of_getElem? (i := 14) rfl)) (hw _ (List.mem_of_getElem? (i := 13) rfl)) (by decide) (by decide)) (g := (mkF m 115 #[.val (.int y1), .val (.int y2), .val (.int y3), .val (.int y4), .val (.int y5), .val (.int y6), .val (.int v5), .val (.int v12), .val (.int v19), .val (.int v26), .val (.int (1 : Int32)), .val (.int (4 : Int32)), .val (.int (5 : Int32)), .val (.ref b344), .val (.int v101)] [(.int (4 : Int32)), (.int v26), (.int v19), (.int v12), (.int v5), (.int v101)])) rfl (by rw [hml]; rfl) (argsL := [(.int v5), (.int v12), (.int v19), (.int v26), (.int (4 : Int32))]) (rest := [(.int v101)]) (lenOf own_pd2 rfl) rfl (by show 2 * 0 + _ ≤ _; exact Nat.le_of_eq rfl) (hb hby at_115) (fun _ _ => ⟨rfl, eh388, (by decide : 1 + 0 ≤ _), (by decide : 5 + 0 ≤ _)⟩)
      dsimp only [Pt.U, Pt.locs, Pt.cells, Pt.slots] at X390 l390 y390 z390 st390 hQ390
      subst l390 y390 z390
      obtain ⟨rfl, N390q, eh390⟩ := hQ390
      have N390 := Fr.app N388 N390q
      have hd391 : v101 = (own_ex v5 v12 v19 v26 (4 : Int32)) := (by rw [hv101, hv5, hv12, hv19, hv26, own_bb, own_bb, own_bb, own_bb]; exact own_fin 4 _ _ _ _ _ (by decide))
      obtain ⟨fs, hr, hrun, hended, hW, hsame⟩ := X390.leave (v := some (.int (1 : Int32))) (fun h => by rw [Bd.returns] at h; cases h)
      refine ⟨_, _, pre389 _ ?_, hrun, hended, _, _, rfl, ?_, ⟨_, rfl⟩, hW, hsame.mono (by decide) (by decide)⟩
      · show Steps p.tables e below (T388.setTop (mkF m 103 #[.val (.int y1), .val (.int y2), .val (.int y3), .val (.int y4), .val (.int y5), .val (.int y6), .val (.int v5), .val (.int v12), .val (.int v19), .val (.int v26), .val (.int (1 : Int32)), .val (.int (4 : Int32)), .val (.int (5 : Int32)), .val (.ref b344), .val (.int v101)] [])) _
        refine XS.iload X388.here hx rfl (hb hby at_103) rfl ?_
        show Steps p.tables e below (T388.setTop (mkF m 105 #[.val (.int y1), .val (.int y2), .val (.int y3), .val (.int y4), .val (.int y5), .val (.int y6), .val (.int v5), .val (.int v12), .val (.int v19), .val (.int v26), .val (.int (1 : Int32)), .val (.int (4 : Int32)), .val (.int (5 : Int32)), .val (.ref b344), .val (.int v101)] [(.int v101)])) _
        refine XS.iload X388.here hx rfl (hb hby at_105) rfl ?_
        show Steps p.tables e below (T388.setTop (mkF m 107 #[.val (.int y1), .val (.int y2), .val (.int y3), .val (.int y4), .val (.int y5), .val (.int y6), .val (.int v5), .val (.int v12), .val (.int v19), .val (.int v26), .val (.int (1 : Int32)), .val (.int (4 : Int32)), .val (.int (5 : Int32)), .val (.ref b344), .val (.int v101)] [(.int v5), (.int v101)])) _
        refine XS.iload X388.here hx rfl (hb hby at_107) rfl ?_
        show Steps p.tables e below (T388.setTop (mkF m 109 #[.val (.int y1), .val (.int y2), .val (.int y3), .val (.int y4), .val (.int y5), .val (.int y6), .val (.int v5), .val (.int v12), .val (.int v19), .val (.int v26), .val (.int (1 : Int32)), .val (.int (4 : Int32)), .val (.int (5 : Int32)), .val (.ref b344), .val (.int v101)] [(.int v12), (.int v5), (.int v101)])) _
        refine XS.iload X388.here hx rfl (hb hby at_109) rfl ?_
        show Steps p.tables e below (T388.setTop (mkF m 111 #[.val (.int y1), .val (.int y2), .val (.int y3), .val (.int y4), .val (.int y5), .val (.int y6), .val (.int v5), .val (.int v12), .val (.int v19), .val (.int v26), .val (.int (1 : Int32)), .val (.int (4 : Int32)), .val (.int (5 : Int32)), .val (.ref b344), .val (.int v101)] [(.int v19), (.int v12), (.int v5), (.int v101)])) _
        refine XS.iload X388.here hx rfl (hb hby at_111) rfl ?_
        show Steps p.tables e below (T388.setTop (mkF m 113 #[.val (.int y1), .val (.int y2), .val (.int y3), .val (.int y4), .val (.int y5), .val (.int y6), .val (.int v5), .val (.int v12), .val (.int v19), .val (.int v26), .val (.int (1 : Int32)), .val (.int (4 : Int32)), .val (.int (5 : Int32)), .val (.ref b344), .val (.int v101)] [(.int v26), (.int v19), (.int v12), (.int v5), (.int v101)])) _
        refine XS.iload X388.here hx rfl (hb hby at_113) rfl ?_
        show Steps p.tables e below (T388.setTop (mkF m 115 #[.val (.int y1), .val (.int y2), .val (.int y3), .val (.int y4), .val (.int y5), .val (.int y6), .val (.int v5), .val (.int v12), .val (.int v19), .val (.int v26), .val (.int (1 : Int32)), .val (.int (4 : Int32)), .val (.int (5 : Int32)), .val (.ref b344), .val (.int v101)] [(.int (4 : Int32)), (.int v26), (.int v19), (.int v12), (.int v5), (.int v101)])) _
        refine st390 _ ?_
        show Steps p.tables e below (T390.setTop (mkF m 118 #[.val (.int y1), .val (.int y2), .val (.int y3), .val (.int y4), .val (.int y5), .val (.int y6), .val (.int v5), .val (.int v12), .val (.int v19), .val (.int v26), .val (.int (1 : Int32)), .val (.int (4 : Int32)), .val (.int (5 : Int32)), .val (.ref b344), .val (.int v101)] [(.int (own_ex v5 v12 v19 v26 (4 : Int32))), (.int v101)])) _
        refine XS.icmpNo X390.here hx rfl (hb hby at_118) rfl (teq hd391).2 ?_
        show Steps p.tables e below (T390.setTop (mkF m 121 #[.val (.int y1), .val (.int y2), .val (.int y3), .val (.int y4), .val (.int y5), .val (.int y6), .val (.int v5), .val (.int v12), .val (.int v19), .val (.int v26), .val (.int (1 : Int32)), .val (.int (4 : Int32)), .val (.int (5 : Int32)), .val (.ref b344), .val (.int v101)] [])) _
        refine XS.iconst X390.here hx rfl (hb hby at_121) ?_
        show Steps p.tables e below (T390.setTop (mkF m 122 #[.val (.int y1), .val (.int y2), .val (.int y3), .val (.int y4), .val (.int y5), .val (.int y6), .val (.int v5), .val (.int v12), .val (.int v19), .val (.int v26), .val (.int (1 : Int32)), .val (.int (4 : Int32)), .val (.int (5 : Int32)), .val (.ref b344), .val (.int v101)] [(.int (1 : Int32))])) _
        refine XS.goto X390.here hx rfl (pc0 := 122) (pc' := 126) rfl (hb hby at_122) (by decide) (by decide) ?_
        show Steps p.tables e below (T390.setTop (mkF m 126 #[.val (.int y1), .val (.int y2), .val (.int y3), .val (.int y4), .val (.int y5), .val (.int y6), .val (.int v5), .val (.int v12), .val (.int v19), .val (.int v26), .val (.int (1 : Int32)), .val (.int (4 : Int32)), .val (.int (5 : Int32)), .val (.ref b344), .val (.int v101)] [(.int (1 : Int32))])) _
        exact retN X390 hx (t := .boolean) Bd.returns (by simp) (hb hby at_126) hr
      · show own_Q0 Z y1 y2 y3 y4 y5 y6 wS cS wL cL wH cH h0 n0 _ T390.heap _
        rw [eh390]
        exact ⟨rfl, N390⟩
set_option maxRecDepth 65536 in
set_option maxHeartbeats 40000000 in
theorem own_comes_1 {Post : Tables → Env → Array Value → State → Outcome → State → Prop} (hpost : ∀ tb e args s v u, (limb_1_1.after args s (.returned v) u = true ∧ limb_1_2.after args s (.returned v) u = true ∧ True) → FrameEnd s (.returned v) u (Jvm.fieldLocs frame_1_writes args s ++ Jvm.arrayLocs frame_1_arrays args s ++ Jvm.staticLocs frame_1_statics s) 16 128 → Post tb e args s (.returned v) u) :
    ArmFor flags0 classFile x code maxLocals ret World_1 tables_1 room_1 Calls_1 rest_1 Pre_1 Post := by
  intro l hfl _ _ p e ha hc hk s m args below hf hA hF happ hP
  obtain ⟨hcalls, hrest, hpre⟩ := hP
  obtain ⟨-, -, -, hnamed, -, -, -, hat⟩ := (Spec.applies_iff hf).mp happ
  obtain ⟨hg, hn⟩ := and_e (Cond.before_iff.mp (show (Jvm.Cond.and given_1 narrow_1).before args s = true from hpre))
  obtain ⟨gg1, gg2⟩ := and_e hg
  obtain ⟨gg3, gg4⟩ := and_e gg2
  obtain ⟨gg5, gg6⟩ := and_e gg4
  obtain ⟨gg7, gg8⟩ := and_e gg6
  obtain ⟨gg9, gg10⟩ := and_e gg8
  obtain ⟨gg11, gg12⟩ := and_e gg10
  obtain ⟨w0, w1, w2, w3, w4, w5, rfl⟩ : ∃ w0 w1 w2 w3 w4 w5 : Value, args = #[w0, w1, w2, w3, w4, w5] := by
    have hs : args.size = 6 := by simpa [Cond.value, given_1] using gg1
    obtain ⟨L⟩ := args
    match L, hs with
    | [w0, w1, w2, w3, w4, w5], _ => exact ⟨w0, w1, w2, w3, w4, w5, rfl⟩
  have hw := fun d (hd : d ∈ tables_1) => atoms_spec (ws := Jvm.Cond.code x code maxLocals ret :: tables_1) hat d (List.mem_cons_of_mem _ hd)
  have hfit : Fit s := fun {y c} hc i hi => by
    obtain ⟨ha, rfl⟩ := Array.getElem?_eq_some_iff.mp hc
    have q := List.all_eq_true.mp ((Array.all_eq_true_iff_forall_mem.mp hF) _ (Array.getElem_mem ha)) i (List.mem_range.mpr hi)
    simpa [Array.getElem?_eq_getElem hi] using q
  obtain ⟨i0, ei0⟩ := is_v gg3
  obtain rfl : w0 = (.int i0) := Option.some.inj ei0
  obtain ⟨i1, ei1⟩ := is_v gg5
  obtain rfl : w1 = (.int i1) := Option.some.inj ei1
  obtain ⟨i2, ei2⟩ := is_v gg7
  obtain rfl : w2 = (.int i2) := Option.some.inj ei2
  obtain ⟨i3, ei3⟩ := is_v gg9
  obtain rfl : w3 = (.int i3) := Option.some.inj ei3
  obtain ⟨i4, ei4⟩ := is_v gg11
  obtain rfl : w4 = (.int i4) := Option.some.inj ei4
  obtain ⟨i5, ei5⟩ := is_v gg12
  obtain rfl : w5 = (.int i5) := Option.some.inj ei5
  obtain ⟨n0, r0⟩ := and_e hn
  obtain ⟨n1, r1⟩ := and_e r0
  obtain ⟨n2, r2⟩ := and_e r1
  obtain ⟨n3, r3⟩ := and_e r2
  obtain ⟨n4, r4⟩ := and_e r3
  obtain ⟨n5, r5⟩ := and_e r4
  obtain ⟨n6, r6⟩ := and_e r5
  obtain ⟨n7, r7⟩ := and_e r6
  obtain ⟨n8, r8⟩ := and_e r7
  obtain ⟨n9, r9⟩ := and_e r8
  obtain ⟨n10, r10⟩ := and_e r9
  obtain ⟨n11, r11⟩ := and_e r10
  obtain ⟨n12, r12⟩ := and_e r11
  obtain ⟨n13, r13⟩ := and_e r12
  obtain ⟨n14, r14⟩ := and_e r13
  obtain ⟨n15, r15⟩ := and_e r14
  obtain ⟨n16, r16⟩ := and_e r15
  obtain ⟨n17, r17⟩ := and_e r16
  obtain ⟨n18, r18⟩ := and_e r17
  obtain ⟨n19, r19⟩ := and_e r18
  obtain ⟨n20, r20⟩ := and_e r19
  have n21 := r20
  obtain ⟨wS, evwS⟩ := arr_v n0
  have SwS := Sta.start evwS (Or.inr ⟨(hw _ (List.mem_of_getElem? (i := 3) rfl)), (hw _ (List.mem_of_getElem? (i := 6) rfl))⟩)
  obtain ⟨cS, RwS⟩ := Arr.start evwS n0
  obtain ⟨szcS, qcS, zcS⟩ := own_len evwS RwS n1 (by decide)
  have TwS := Tab.start hfit RwS (by simp) qcS zcS (by decide)
  obtain ⟨wL, evwL⟩ := arr_v n2
  have SwL := Sta.start evwL (Or.inr ⟨(hw _ (List.mem_of_getElem? (i := 3) rfl)), (hw _ (List.mem_of_getElem? (i := 8) rfl))⟩)
  obtain ⟨cL, RwL⟩ := Arr.start evwL n2
  obtain ⟨szcL, qcL, zcL⟩ := own_len evwL RwL n3 (by decide)
  have TwL := Tab.start hfit RwL (by simp) qcL zcL (by decide)
  obtain ⟨wH, evwH⟩ := arr_v n4
  have SwH := Sta.start evwH (Or.inr ⟨(hw _ (List.mem_of_getElem? (i := 3) rfl)), (hw _ (List.mem_of_getElem? (i := 10) rfl))⟩)
  obtain ⟨cH, RwH⟩ := Arr.start evwH n4
  obtain ⟨szcH, qcH, zcH⟩ := own_len evwH RwH n5 (by decide)
  have TwH := Tab.start hfit RwH (by simp) qcH zcH (by decide)
  have tacS : ∀ j : Int32, ¬ (j < 0 ∨ cS.slots.size ≤ j.toNatClampNeg) → cS.slots[j.toNatClampNeg]? = some (.int (own_szT j)) := fun j hj => by
    obtain ⟨a, x, e⟩ := own_row evwS TwS hj
    rw [TwS.2.2.2 j hj, ← own_szE (or_e2 (Cond.le_ints rfl x) (Cond.eq_ints e rfl) (a _ n6)) (own_or3 (Cond.lt_ints x rfl) (Cond.le_ints rfl x) (Cond.eq_ints e rfl) (a _ n7)) (own_or3 (Cond.lt_ints x rfl) (Cond.le_ints rfl x) (Cond.eq_ints e rfl) (a _ n8)) (own_or3 (Cond.lt_ints x rfl) (Cond.le_ints rfl x) (Cond.eq_ints e rfl) (a _ n9)) (own_or3 (Cond.lt_ints x rfl) (Cond.le_ints rfl x) (Cond.eq_ints e rfl) (a _ n10)) (or_e2 (Cond.lt_ints x rfl) (Cond.eq_ints e rfl) (a _ n11))]
  have tacL : ∀ j : Int32, ¬ (j < 0 ∨ cL.slots.size ≤ j.toNatClampNeg) → cL.slots[j.toNatClampNeg]? = some (.int (own_loT j)) := fun j hj => by
    obtain ⟨a, x, e⟩ := own_row evwL TwL hj
    rw [TwL.2.2.2 j hj, ← own_loE (or_e2 (Cond.le_ints rfl x) (Cond.eq_ints e rfl) (a _ n12)) (fun q => by subst q; exact own_pt evwL TwL hj n13) (own_or3 (Cond.lt_ints x rfl) (Cond.le_ints rfl x) (Cond.eq_ints e rfl) (a _ n14)) (fun q => by subst q; exact own_pt evwL TwL hj n15) (or_e2 (Cond.lt_ints x rfl) (Cond.eq_ints e rfl) (a _ n16))]
  have tacH : ∀ j : Int32, ¬ (j < 0 ∨ cH.slots.size ≤ j.toNatClampNeg) → cH.slots[j.toNatClampNeg]? = some (.int (own_hiT j)) := fun j hj => by
    obtain ⟨a, x, e⟩ := own_row evwH TwH hj
    rw [TwH.2.2.2 j hj, ← own_hiE (or_e2 (Cond.le_ints rfl x) (Cond.eq_ints e rfl) (a _ n17)) (fun q => by subst q; exact own_pt evwH TwH hj n18) (own_or3 (Cond.lt_ints x rfl) (Cond.le_ints rfl x) (Cond.eq_ints e rfl) (a _ n19)) (fun q => by subst q; exact own_pt evwH TwH hj n20) (or_e2 (Cond.lt_ints x rfl) (Cond.eq_ints e rfl) (a _ n21))]
  obtain ⟨n, o, h1, h2, h3, _, L, rfl, ⟨rfl, N⟩, hq⟩ := own_rm0 l s _ hw tables_1 i0 i1 i2 i3 i4 i5 wS cS wL cL wH cH s.heap s.heap.size (Nat.le_refl _) SwS RwS SwL RwL SwH RwH szcS tacS szcL tacL szcH tacH p e ha hc hk s m _ below hf ((Spec.applies_iff_loose hf).mp happ).1 ⟨rfl, State.Warmed39.refl s, rfl⟩ trivial
  refine ⟨n, _, h1, h2, h3, hpost _ _ _ _ _ _ ⟨Cond.after_iff.mpr rfl, Cond.after_iff.mpr (eq_i res_at (Term.int_eval (1)) rfl), trivial⟩ ⟨hq.1, hq.2.1, (hq.2.2.sift fun y hy => Or.inr (N y hy)).mono (by decide) (by decide)⟩⟩
theorem main_1_1 : Claimed_1_1 := own_comes_1 fun _ _ _ _ _ _ h hF => ⟨h.1, hF⟩
theorem main_1_2 : Claimed_1_2 := own_comes_1 fun _ _ _ _ _ _ h hF => ⟨h.2.1, hF⟩
end Jvm.Pilot.@@N@@
namespace Jvm.Pilot.@@N@@
open Jvm Jvm.ClassFile Sem Op Lib Jvm.Free Jvm.Stand Jvm.Pilot.@@N@@.Jvm.D
/-! MADE BY PROGRAM (witnessworld.py) out of the Statement's table words and the real class files: 9 classes; the members and pool entries that the words name. The judged class is class 1, her method 1. -/
namespace start1
open Jvm.ClassFile
def u (s : String) : CpInfo := .utf8 (stringToUtf16 s)
/-- a pool by its gaps: so many unusable entries, then the entry; so many at the end -/
def gap : Nat → List CpInfo → List CpInfo
  | 0, r => r
  | n + 1, r => .unusable :: gap n r
def poolList (es : List (Nat × CpInfo)) (last : Nat) : List CpInfo := es.foldr (fun e r => gap e.1 (e.2 :: r)) (gap last [])
def pool (es : List (Nat × CpInfo)) (last : Nat) : Array CpInfo := ⟨poolList es last⟩
def fileOf (pool : Array CpInfo) (this : Nat) (attrs : Array Attribute := #[]) (ms : Array MethodInfo := #[]) (fl : Nat := 33) (sup : Nat := 0) (ifs : Array Nat := #[]) (fds : Array FieldInfo := #[]) : ClassFile where
  minorVersion := 0
  majorVersion := 65
  constantPool := pool
  accessFlags := fl
  thisClass := this
  superClass := sup
  interfaces := ifs
  fields := fds
  methods := ms
  attributes := attrs
def plain (name : String) (sup : Option ClassId) : Class where
  name := name
  kind := .ordinary
  loader := none
  accessFlags := 33
  super := sup
  interfaces := #[]
  cf := none
  fields := #[]
  methods := #[]
  instanceTypes := #[]
  staticTypes := #[]
  resolved := #[]
  callSites := []
  init := .initialized
  statics := none
  mirror := none

def pool0 : Array CpInfo := pool [(5, u "<init>"), (0, u "()V"), (1, .class_ 10), (1, u "java/lang/Object")] 113

def k0m0 : Method := { name := "<init>", desc := "()V", sig := { parameters := [], returnType := none }, accessFlags := 1, code := none }
/-- java/lang/Object -/
def k0 : Class := { plain "java/lang/Object" none with
  accessFlags := 33
  interfaces := #[]
  cf := some (fileOf pool0 8 #[] #[{ accessFlags := 1, nameIndex := 5, descriptorIndex := 6, attributes := #[] }] 33 0 #[] #[])
  fields := #[]
  methods := #[k0m0]
  instanceTypes := #[]
  staticTypes := #[]
  resolved := Array.replicate 124 none
  statics := none }

def pool1 : Array CpInfo := pool [(2, .class_ 4), (1, u "java/lang/Object"), (0, u "<init>"), (0, u "()V"), (0, .methodref 8 9), (0, .class_ 10), (0, .nameAndType 11 12), (0, u "com/example/stratafile/stratafile/io/Utf8"), (0, u "characterSize"), (0, u "([BII)I"), (0, .methodref 14 15), (0, .class_ 16), (0, .nameAndType 17 18), (0, u "com/example/stratafile/stratafile/io/Utf8CharacterSizePinLaw"), (0, u "expected"), (0, u "(IIIII)I"), (0, .methodref 14 20), (0, .nameAndType 21 22), (0, u "in"), (0, u "(III)Z"), (2, u "law"), (0, u "(IIIIII)Z")] 5

def k1m0 : Method := { name := "<init>", desc := "()V", sig := { parameters := [], returnType := none }, accessFlags := 2, code := none }
def k1c1 : Code := { maxStack := 6, maxLocals := 15, code := code, exceptionTable := #[], attributes := #[] }
def k1m1 : Method := { name := "law", desc := "(IIIIII)Z", sig := { parameters := [.int, .int, .int, .int, .int, .int], returnType := some .boolean }, accessFlags := 9, code := some k1c1 }
def k1c2 : Code := { maxStack := 2, maxLocals := 3, code := method_3_code, exceptionTable := #[], attributes := #[] }
def k1m2 : Method := { name := "in", desc := "(III)Z", sig := { parameters := [.int, .int, .int], returnType := some .boolean }, accessFlags := 10, code := some k1c2 }
def k1c3 : Code := { maxStack := 3, maxLocals := 8, code := method_4_code, exceptionTable := #[], attributes := #[] }
def k1m3 : Method := { name := "expected", desc := "(IIIII)I", sig := { parameters := [.int, .int, .int, .int, .int], returnType := some .int }, accessFlags := 10, code := some k1c3 }
/-- com/example/stratafile/stratafile/io/Utf8CharacterSizePinLaw -/
def k1 : Class := { plain "com/example/stratafile/stratafile/io/Utf8CharacterSizePinLaw" (some 0) with
  accessFlags := 49
  interfaces := #[]
  cf := some (fileOf pool1 14 #[] #[{ accessFlags := 2, nameIndex := 5, descriptorIndex := 6, attributes := #[] }, { accessFlags := 9, nameIndex := 25, descriptorIndex := 26, attributes := #[] }, { accessFlags := 10, nameIndex := 21, descriptorIndex := 22, attributes := #[] }, { accessFlags := 10, nameIndex := 17, descriptorIndex := 18, attributes := #[] }] 49 2 #[] #[])
  fields := #[]
  methods := #[k1m0, k1m1, k1m2, k1m3]
  instanceTypes := #[]
  staticTypes := #[]
  resolved := Array.replicate 32 none
  statics := none }

def pool2 : Array CpInfo := pool [(1, .class_ 2), (0, u "com/example/stratafile/stratafile/io/Utf8"), (3, .class_ 8), (1, u "java/lang/Object"), (0, u "<init>"), (0, u "()V"), (2, u "WORDS"), (0, u "Ljava/lang/invoke/VarHandle;"), (14, .fieldref 1 30), (0, .nameAndType 31 32), (0, u "SIZES"), (0, u "[B"), (0, .fieldref 1 34), (0, .nameAndType 35 36), (0, u "SECOND_LOWEST"), (0, u "[I"), (0, .fieldref 1 38), (0, .nameAndType 39 36), (0, u "SECOND_HIGHEST"), (1, .class_ 43), (1, u "com/example/stratafile/stratafile/io/Utf8$PairSteps"), (1, u "[J"), (4, u "BYTE_STEPS"), (10, u "PAIRS"), (89, u "MAX_CHARACTER_SIZE"), (0, u "I"), (2, u "NO_CHARACTER"), (1, u "CUT_SHORT"), (1, u "NOT_WHOLE"), (0, u "J"), (0, u "LOWEST_CONTINUATION"), (1, u "HIGHEST_CONTINUATION"), (1, u "BYTE_VALUES"), (1, u "HIGH_BITS"), (0, u "STATE_BITS"), (1, u "REFUSED"), (2, u "BETWEEN"), (0, u "UNITS_AT"), (1, u "UNITS_MASK"), (0, u "WORDS_PER_SUM"), (1, u "STATE_MASK"), (3, u "([BII)I"), (1, u "characterSize")] 11

def k2m0 : Method := { name := "<init>", desc := "()V", sig := { parameters := [], returnType := none }, accessFlags := 2, code := none }
def k2c1 : Code := { maxStack := 3, maxLocals := 9, code := prog_115_method_3_code, exceptionTable := #[], attributes := #[] }
def k2m1 : Method := { name := "characterSize", desc := "([BII)I", sig := { parameters := [(.array .byte), .int, .int], returnType := some .int }, accessFlags := 9, code := some k2c1 }
/-- com/example/stratafile/stratafile/io/Utf8 -/
def k2 : Class := { plain "com/example/stratafile/stratafile/io/Utf8" (some 0) with
  accessFlags := 49
  interfaces := #[]
  cf := some (fileOf pool2 1 #[.nestMembers #[41]] #[{ accessFlags := 2, nameIndex := 9, descriptorIndex := 10, attributes := #[] }, { accessFlags := 9, nameIndex := 185, descriptorIndex := 183, attributes := #[] }] 49 6 #[] #[{ accessFlags := 25, nameIndex := 151, descriptorIndex := 152, attributes := #[] }, { accessFlags := 25, nameIndex := 155, descriptorIndex := 152, attributes := #[] }, { accessFlags := 25, nameIndex := 157, descriptorIndex := 152, attributes := #[] }, { accessFlags := 25, nameIndex := 159, descriptorIndex := 160, attributes := #[] }, { accessFlags := 26, nameIndex := 161, descriptorIndex := 152, attributes := #[] }, { accessFlags := 26, nameIndex := 163, descriptorIndex := 152, attributes := #[] }, { accessFlags := 26, nameIndex := 165, descriptorIndex := 152, attributes := #[] }, { accessFlags := 26, nameIndex := 31, descriptorIndex := 32, attributes := #[] }, { accessFlags := 26, nameIndex := 35, descriptorIndex := 36, attributes := #[] }, { accessFlags := 26, nameIndex := 39, descriptorIndex := 36, attributes := #[] }, { accessFlags := 26, nameIndex := 13, descriptorIndex := 14, attributes := #[] }, { accessFlags := 26, nameIndex := 61, descriptorIndex := 14, attributes := #[] }, { accessFlags := 26, nameIndex := 167, descriptorIndex := 160, attributes := #[] }, { accessFlags := 26, nameIndex := 168, descriptorIndex := 152, attributes := #[] }, { accessFlags := 26, nameIndex := 170, descriptorIndex := 160, attributes := #[] }, { accessFlags := 26, nameIndex := 173, descriptorIndex := 160, attributes := #[] }, { accessFlags := 26, nameIndex := 174, descriptorIndex := 152, attributes := #[] }, { accessFlags := 26, nameIndex := 176, descriptorIndex := 160, attributes := #[] }, { accessFlags := 26, nameIndex := 177, descriptorIndex := 152, attributes := #[] }, { accessFlags := 26, nameIndex := 179, descriptorIndex := 160, attributes := #[] }, { accessFlags := 26, nameIndex := 50, descriptorIndex := 45, attributes := #[] }])
  fields := #[{ name := "MAX_CHARACTER_SIZE", type := .int, accessFlags := 25, slot := 0, constantValue := 0 }, { name := "NO_CHARACTER", type := .int, accessFlags := 25, slot := 1, constantValue := 0 }, { name := "CUT_SHORT", type := .int, accessFlags := 25, slot := 2, constantValue := 0 }, { name := "NOT_WHOLE", type := .long, accessFlags := 25, slot := 3, constantValue := 0 }, { name := "LOWEST_CONTINUATION", type := .int, accessFlags := 26, slot := 4, constantValue := 0 }, { name := "HIGHEST_CONTINUATION", type := .int, accessFlags := 26, slot := 5, constantValue := 0 }, { name := "BYTE_VALUES", type := .int, accessFlags := 26, slot := 6, constantValue := 0 }, { name := "SIZES", type := (.array .byte), accessFlags := 26, slot := 7, constantValue := 0 }, { name := "SECOND_LOWEST", type := (.array .int), accessFlags := 26, slot := 8, constantValue := 0 }, { name := "SECOND_HIGHEST", type := (.array .int), accessFlags := 26, slot := 9, constantValue := 0 }, { name := "WORDS", type := (.object "java/lang/invoke/VarHandle"), accessFlags := 26, slot := 10, constantValue := 0 }, { name := "PAIRS", type := (.object "java/lang/invoke/VarHandle"), accessFlags := 26, slot := 11, constantValue := 0 }, { name := "HIGH_BITS", type := .long, accessFlags := 26, slot := 12, constantValue := 0 }, { name := "STATE_BITS", type := .int, accessFlags := 26, slot := 13, constantValue := 0 }, { name := "REFUSED", type := .long, accessFlags := 26, slot := 14, constantValue := 0 }, { name := "BETWEEN", type := .long, accessFlags := 26, slot := 15, constantValue := 0 }, { name := "UNITS_AT", type := .int, accessFlags := 26, slot := 16, constantValue := 0 }, { name := "UNITS_MASK", type := .long, accessFlags := 26, slot := 17, constantValue := 0 }, { name := "WORDS_PER_SUM", type := .int, accessFlags := 26, slot := 18, constantValue := 0 }, { name := "STATE_MASK", type := .long, accessFlags := 26, slot := 19, constantValue := 0 }, { name := "BYTE_STEPS", type := (.array .long), accessFlags := 26, slot := 20, constantValue := 0 }]
  methods := #[k2m0, k2m1]
  instanceTypes := #[]
  staticTypes := #[.int, .int, .int, .long, .int, .int, .int, (.array .byte), (.array .int), (.array .int), (.object "java/lang/invoke/VarHandle"), (.object "java/lang/invoke/VarHandle"), .long, .int, .long, .long, .int, .long, .int, .long, (.array .long)]
  resolved := Array.replicate 197 none
  statics := some 0 }

def pool3 : Array CpInfo := pool [(1, u "java/lang/Cloneable"), (0, .class_ 1), (0, u "java/lang/Object"), (0, .class_ 3)] 3

/-- java/lang/Cloneable -/
def k3 : Class := { plain "java/lang/Cloneable" (some 0) with
  accessFlags := 1537
  interfaces := #[]
  cf := some (fileOf pool3 2 #[] #[] 1537 4 #[] #[])
  fields := #[]
  methods := #[]
  instanceTypes := #[]
  staticTypes := #[]
  resolved := Array.replicate 8 none
  statics := none }

def pool4 : Array CpInfo := pool [(1, u "java/io/Serializable"), (0, .class_ 1), (0, u "java/lang/Object"), (0, .class_ 3)] 3

/-- java/io/Serializable -/
def k4 : Class := { plain "java/io/Serializable" (some 0) with
  accessFlags := 1537
  interfaces := #[]
  cf := some (fileOf pool4 2 #[] #[] 1537 4 #[] #[])
  fields := #[]
  methods := #[]
  instanceTypes := #[]
  staticTypes := #[]
  resolved := Array.replicate 8 none
  statics := none }

/-- the primitive byte -/
def k5 : Class := { plain "byte" none with kind := .primitive 'B', accessFlags := 0x411 }
/-- [B -/
def k6 : Class := { plain "[B" (some 0) with kind := .array 5 .byte, interfaces := #[3, 4], accessFlags := 1041 }

/-- the primitive int -/
def k7 : Class := { plain "int" none with kind := .primitive 'I', accessFlags := 0x411 }
/-- [I -/
def k8 : Class := { plain "[I" (some 0) with kind := .array 7 .int, interfaces := #[3, 4], accessFlags := 1041 }

def heap : Heap := #[{ cls := 2, slots := #[.int 0, .int 0, .int 0, .long 0, .int 0, .int 0, .int 0, .ref 1, .ref 2, .ref 3, .null, .null, .long 0, .int 0, .long 0, .long 0, .int 0, .long 0, .int 0, .long 0, .null], vm := .statics 2 },
  { cls := 6, slots := #[.int 1, .int 1, .int 1, .int 1, .int 1, .int 1, .int 1, .int 1, .int 1, .int 1, .int 1, .int 1, .int 1, .int 1, .int 1, .int 1, .int 1, .int 1, .int 1, .int 1, .int 1, .int 1, .int 1, .int 1, .int 1, .int 1, .int 1, .int 1, .int 1, .int 1, .int 1, .int 1, .int 1, .int 1, .int 1, .int 1, .int 1, .int 1, .int 1, .int 1, .int 1, .int 1, .int 1, .int 1, .int 1, .int 1, .int 1, .int 1, .int 1, .int 1, .int 1, .int 1, .int 1, .int 1, .int 1, .int 1, .int 1, .int 1, .int 1, .int 1, .int 1, .int 1, .int 1, .int 1, .int 1, .int 1, .int 1, .int 1, .int 1, .int 1, .int 1, .int 1, .int 1, .int 1, .int 1, .int 1, .int 1, .int 1, .int 1, .int 1, .int 1, .int 1, .int 1, .int 1, .int 1, .int 1, .int 1, .int 1, .int 1, .int 1, .int 1, .int 1, .int 1, .int 1, .int 1, .int 1, .int 1, .int 1, .int 1, .int 1, .int 1, .int 1, .int 1, .int 1, .int 1, .int 1, .int 1, .int 1, .int 1, .int 1, .int 1, .int 1, .int 1, .int 1, .int 1, .int 1, .int 1, .int 1, .int 1, .int 1, .int 1, .int 1, .int 1, .int 1, .int 1, .int 1, .int 1, .int 1, .int (-1), .int (-1), .int (-1), .int (-1), .int (-1), .int (-1), .int (-1), .int (-1), .int (-1), .int (-1), .int (-1), .int (-1), .int (-1), .int (-1), .int (-1), .int (-1), .int (-1), .int (-1), .int (-1), .int (-1), .int (-1), .int (-1), .int (-1), .int (-1), .int (-1), .int (-1), .int (-1), .int (-1), .int (-1), .int (-1), .int (-1), .int (-1), .int (-1), .int (-1), .int (-1), .int (-1), .int (-1), .int (-1), .int (-1), .int (-1), .int (-1), .int (-1), .int (-1), .int (-1), .int (-1), .int (-1), .int (-1), .int (-1), .int (-1), .int (-1), .int (-1), .int (-1), .int (-1), .int (-1), .int (-1), .int (-1), .int (-1), .int (-1), .int (-1), .int (-1), .int (-1), .int (-1), .int (-1), .int (-1), .int (-1), .int (-1), .int 2, .int 2, .int 2, .int 2, .int 2, .int 2, .int 2, .int 2, .int 2, .int 2, .int 2, .int 2, .int 2, .int 2, .int 2, .int 2, .int 2, .int 2, .int 2, .int 2, .int 2, .int 2, .int 2, .int 2, .int 2, .int 2, .int 2, .int 2, .int 2, .int 2, .int 3, .int 3, .int 3, .int 3, .int 3, .int 3, .int 3, .int 3, .int 3, .int 3, .int 3, .int 3, .int 3, .int 3, .int 3, .int 3, .int 4, .int 4, .int 4, .int 4, .int 4, .int (-1), .int (-1), .int (-1), .int (-1), .int (-1), .int (-1), .int (-1), .int (-1), .int (-1), .int (-1), .int (-1)], vm := .none },
  { cls := 8, slots := #[.int 128, .int 128, .int 128, .int 128, .int 128, .int 128, .int 128, .int 128, .int 128, .int 128, .int 128, .int 128, .int 128, .int 128, .int 128, .int 128, .int 128, .int 128, .int 128, .int 128, .int 128, .int 128, .int 128, .int 128, .int 128, .int 128, .int 128, .int 128, .int 128, .int 128, .int 128, .int 128, .int 128, .int 128, .int 128, .int 128, .int 128, .int 128, .int 128, .int 128, .int 128, .int 128, .int 128, .int 128, .int 128, .int 128, .int 128, .int 128, .int 128, .int 128, .int 128, .int 128, .int 128, .int 128, .int 128, .int 128, .int 128, .int 128, .int 128, .int 128, .int 128, .int 128, .int 128, .int 128, .int 128, .int 128, .int 128, .int 128, .int 128, .int 128, .int 128, .int 128, .int 128, .int 128, .int 128, .int 128, .int 128, .int 128, .int 128, .int 128, .int 128, .int 128, .int 128, .int 128, .int 128, .int 128, .int 128, .int 128, .int 128, .int 128, .int 128, .int 128, .int 128, .int 128, .int 128, .int 128, .int 128, .int 128, .int 128, .int 128, .int 128, .int 128, .int 128, .int 128, .int 128, .int 128, .int 128, .int 128, .int 128, .int 128, .int 128, .int 128, .int 128, .int 128, .int 128, .int 128, .int 128, .int 128, .int 128, .int 128, .int 128, .int 128, .int 128, .int 128, .int 128, .int 128, .int 128, .int 128, .int 128, .int 128, .int 128, .int 128, .int 128, .int 128, .int 128, .int 128, .int 128, .int 128, .int 128, .int 128, .int 128, .int 128, .int 128, .int 128, .int 128, .int 128, .int 128, .int 128, .int 128, .int 128, .int 128, .int 128, .int 128, .int 128, .int 128, .int 128, .int 128, .int 128, .int 128, .int 128, .int 128, .int 128, .int 128, .int 128, .int 128, .int 128, .int 128, .int 128, .int 128, .int 128, .int 128, .int 128, .int 128, .int 128, .int 128, .int 128, .int 128, .int 128, .int 128, .int 128, .int 128, .int 128, .int 128, .int 128, .int 128, .int 128, .int 128, .int 128, .int 128, .int 128, .int 128, .int 128, .int 128, .int 128, .int 128, .int 128, .int 128, .int 128, .int 128, .int 128, .int 128, .int 128, .int 128, .int 128, .int 128, .int 128, .int 128, .int 128, .int 128, .int 128, .int 128, .int 128, .int 128, .int 128, .int 128, .int 128, .int 128, .int 128, .int 128, .int 128, .int 128, .int 128, .int 128, .int 128, .int 160, .int 128, .int 128, .int 128, .int 128, .int 128, .int 128, .int 128, .int 128, .int 128, .int 128, .int 128, .int 128, .int 128, .int 128, .int 128, .int 144, .int 128, .int 128, .int 128, .int 128, .int 128, .int 128, .int 128, .int 128, .int 128, .int 128, .int 128, .int 128, .int 128, .int 128, .int 128], vm := .none },
  { cls := 8, slots := #[.int 191, .int 191, .int 191, .int 191, .int 191, .int 191, .int 191, .int 191, .int 191, .int 191, .int 191, .int 191, .int 191, .int 191, .int 191, .int 191, .int 191, .int 191, .int 191, .int 191, .int 191, .int 191, .int 191, .int 191, .int 191, .int 191, .int 191, .int 191, .int 191, .int 191, .int 191, .int 191, .int 191, .int 191, .int 191, .int 191, .int 191, .int 191, .int 191, .int 191, .int 191, .int 191, .int 191, .int 191, .int 191, .int 191, .int 191, .int 191, .int 191, .int 191, .int 191, .int 191, .int 191, .int 191, .int 191, .int 191, .int 191, .int 191, .int 191, .int 191, .int 191, .int 191, .int 191, .int 191, .int 191, .int 191, .int 191, .int 191, .int 191, .int 191, .int 191, .int 191, .int 191, .int 191, .int 191, .int 191, .int 191, .int 191, .int 191, .int 191, .int 191, .int 191, .int 191, .int 191, .int 191, .int 191, .int 191, .int 191, .int 191, .int 191, .int 191, .int 191, .int 191, .int 191, .int 191, .int 191, .int 191, .int 191, .int 191, .int 191, .int 191, .int 191, .int 191, .int 191, .int 191, .int 191, .int 191, .int 191, .int 191, .int 191, .int 191, .int 191, .int 191, .int 191, .int 191, .int 191, .int 191, .int 191, .int 191, .int 191, .int 191, .int 191, .int 191, .int 191, .int 191, .int 191, .int 191, .int 191, .int 191, .int 191, .int 191, .int 191, .int 191, .int 191, .int 191, .int 191, .int 191, .int 191, .int 191, .int 191, .int 191, .int 191, .int 191, .int 191, .int 191, .int 191, .int 191, .int 191, .int 191, .int 191, .int 191, .int 191, .int 191, .int 191, .int 191, .int 191, .int 191, .int 191, .int 191, .int 191, .int 191, .int 191, .int 191, .int 191, .int 191, .int 191, .int 191, .int 191, .int 191, .int 191, .int 191, .int 191, .int 191, .int 191, .int 191, .int 191, .int 191, .int 191, .int 191, .int 191, .int 191, .int 191, .int 191, .int 191, .int 191, .int 191, .int 191, .int 191, .int 191, .int 191, .int 191, .int 191, .int 191, .int 191, .int 191, .int 191, .int 191, .int 191, .int 191, .int 191, .int 191, .int 191, .int 191, .int 191, .int 191, .int 191, .int 191, .int 191, .int 191, .int 191, .int 191, .int 191, .int 191, .int 191, .int 191, .int 191, .int 191, .int 191, .int 191, .int 191, .int 191, .int 191, .int 191, .int 191, .int 191, .int 191, .int 191, .int 191, .int 191, .int 191, .int 191, .int 191, .int 191, .int 191, .int 191, .int 191, .int 191, .int 159, .int 191, .int 191, .int 191, .int 191, .int 191, .int 191, .int 143, .int 191, .int 191, .int 191, .int 191, .int 191, .int 191, .int 191, .int 191, .int 191, .int 191, .int 191], vm := .none }]
def classes : Array Class := #[k0, k1, k2, k3, k4, k5, k6, k7, k8]
def interned : List (Array UInt16 × Addr) := []
def slotsUsed : Nat := 789
def theMethod : MethodId := ⟨1, 1⟩
def args0 : Array Value := #[.int 65, .int 66, .int 67, .int 68, .int 1, .int 0]
def aboutOver (below : List Frame) : State where
  vm := { classes := classes, interned := interned.toArray }
  heap := heap
  slotsUsed := slotsUsed
  threads := #[{ frames := .invoking theMethod args0 :: below }]
def below0 : List Frame := [.native { method := ⟨0, 0⟩, args := #[] }]
def about1 : State := aboutOver below0
def p0 : Program := .bare "" "" ""
def e0 : Env := launch0.env 0 0 0
theorem w_frames : about1.frames = Frame.invoking theMethod args0 :: below0 := rfl
set_option maxRecDepth 65536 in
theorem w_args : argsFit about1.vm theMethod args0 = true := by decide +kernel
set_option maxRecDepth 65536 in
theorem w_heap : heapFits about1 = true := by decide +kernel
set_option maxRecDepth 65536 in
theorem w_runnable : about1.curStatus? = some .runnable := by decide +kernel
set_option maxRecDepth 65536 in
theorem w_alone : about1.alone = true := by decide +kernel
set_option maxRecDepth 65536 in
theorem w_named : about1.methodNamed? x = some theMethod := by decide +kernel
set_option maxRecDepth 65536 in
theorem w_hears : about1.hears theMethod below0 = true := by decide +kernel
set_option maxRecDepth 65536 in
theorem w_ripe : about1.ripe theMethod args0 below0 = true := by decide +kernel
theorem w_running : about1.status = .running := rfl
set_option maxRecDepth 65536 in
theorem w_room : about1.hasRoom e0.platform room_1 = true :=
  launch0.hasRoom_least _ room_1 (by decide +kernel) (by decide +kernel) (by decide +kernel) (by decide +kernel) (by decide +kernel) (by decide +kernel)
theorem allAtoms_all (ts : List Jvm.Cond) (a : Array Jvm.Value) (st : Jvm.State) : (allAtoms ts).before a st = ts.all (fun c => c.before a st) := by
  induction ts with
  | nil => rfl
  | cons c t ih =>
    show (Jvm.Cond.and c (allAtoms t)).before a st = _
    rw [Jvm.Cond.before_and, ih, List.all_cons]
def words1 : List Jvm.Cond := Jvm.Cond.code x code maxLocals ret :: tables_1
/-- a 'code' word, met by the world's own term for the bytes: nothing is compared byte by byte -/
theorem code_word {y : MethodName} {bytes : ByteArray} {mx : Nat} {rt : Option FieldType} {a : Array Value} {s : State} {m : MethodId} {meth : Method} {c : Code} (h1 : s.methodNamed? y = some m) (h2 : s.vm.method? m = some meth) (h3 : meth.code = some c) (h4 : c.code = bytes)
    (h5 : (c.maxLocals == mx && c.exceptionTable.isEmpty && decide (c.maxStack ≤ mostOperands) && decide (meth.sig.returnType = rt) && !meth.locks && decide (parseMethodDescriptor y.desc = some meth.sig)) = true) : (Jvm.Cond.code y bytes mx rt).before a s = true := by
  simp only [Bool.and_eq_true, beq_iff_eq, Bool.not_eq_true', decide_eq_true_eq] at h5
  obtain ⟨⟨⟨⟨⟨g1, g2⟩, g3⟩, g4⟩, g5⟩, g6⟩ := h5
  simp [Cond.before, Cond.holds, Cond.value, h1, h2, h3, h4, g1, g2, g3, g4, g5, g6]
def isCode : Jvm.Cond → Bool
  | .code _ _ _ _ => true
  | _ => false
theorem all_split {L : List Jvm.Cond} {P : Jvm.Cond → Bool} (h1 : L.all (fun c => isCode c || P c) = true) (h2 : ∀ c ∈ L.filter isCode, P c = true) : L.all P = true := by
  refine List.all_eq_true.mpr fun c hc => ?_
  have h := List.all_eq_true.mp h1 c hc
  rcases Bool.eq_false_or_eq_true (isCode c) with hi | hi
  · exact h2 c (List.mem_filter.mpr ⟨hc, hi⟩)
  · simpa [hi] using h
set_option maxRecDepth 65536 in
theorem w_c0 : (Jvm.Cond.code x code maxLocals ret).before args0 about1 = true := code_word (m := ⟨1, 1⟩) (meth := k1m1) (c := k1c1) (by decide +kernel) rfl rfl rfl (by decide +kernel)
set_option maxRecDepth 65536 in
theorem w_c1 : (Jvm.Cond.code ({ cls := "com/example/stratafile/stratafile/io/Utf8", name := "characterSize", desc := "([BII)I" } : Jvm.MethodName) prog_115_method_3_code (9 : Nat) (Option.some Jvm.ClassFile.FieldType.int)).before args0 about1 = true := code_word (m := ⟨2, 1⟩) (meth := k2m1) (c := k2c1) (by decide +kernel) rfl rfl rfl (by decide +kernel)
set_option maxRecDepth 65536 in
theorem w_c2 : (Jvm.Cond.code ({ cls := "com/example/stratafile/stratafile/io/Utf8CharacterSizePinLaw", name := "expected", desc := "(IIIII)I" } : Jvm.MethodName) method_4_code (8 : Nat) (Option.some Jvm.ClassFile.FieldType.int)).before args0 about1 = true := code_word (m := ⟨1, 3⟩) (meth := k1m3) (c := k1c3) (by decide +kernel) rfl rfl rfl (by decide +kernel)
set_option maxRecDepth 65536 in
theorem w_c3 : (Jvm.Cond.code ({ cls := "com/example/stratafile/stratafile/io/Utf8CharacterSizePinLaw", name := "in", desc := "(III)Z" } : Jvm.MethodName) method_3_code (3 : Nat) (Option.some Jvm.ClassFile.FieldType.boolean)).before args0 about1 = true := code_word (m := ⟨1, 2⟩) (meth := k1m2) (c := k1c2) (by decide +kernel) rfl rfl rfl (by decide +kernel)
def codes1 : List Jvm.Cond := [Jvm.Cond.code x code maxLocals ret, Jvm.Cond.code ({ cls := "com/example/stratafile/stratafile/io/Utf8", name := "characterSize", desc := "([BII)I" } : Jvm.MethodName) prog_115_method_3_code (9 : Nat) (Option.some Jvm.ClassFile.FieldType.int), Jvm.Cond.code ({ cls := "com/example/stratafile/stratafile/io/Utf8CharacterSizePinLaw", name := "expected", desc := "(IIIII)I" } : Jvm.MethodName) method_4_code (8 : Nat) (Option.some Jvm.ClassFile.FieldType.int), Jvm.Cond.code ({ cls := "com/example/stratafile/stratafile/io/Utf8CharacterSizePinLaw", name := "in", desc := "(III)Z" } : Jvm.MethodName) method_3_code (3 : Nat) (Option.some Jvm.ClassFile.FieldType.boolean)]
set_option maxRecDepth 65536 in
theorem codes_eq : words1.filter isCode = codes1 := rfl
theorem w_codes : ∀ c ∈ words1.filter isCode, c.before args0 about1 = true := by
  rw [codes_eq]
  intro c hc
  simp only [codes1, List.mem_cons, List.not_mem_nil, or_false] at hc
  rcases hc with rfl | rfl | rfl | rfl
  · exact w_c0
  · exact w_c1
  · exact w_c2
  · exact w_c3
set_option maxRecDepth 65536 in
theorem w_t1 : words1.all (fun c => isCode c || c.before args0 about1) = true := by decide +kernel
theorem w_tables : (allAtoms (Jvm.Cond.code x code maxLocals ret :: tables_1)).before args0 about1 = true := by
  rw [allAtoms_all]
  show words1.all (fun c => c.before args0 about1) = true
  refine all_split ?_ w_codes
  rw [w_t1]
set_option maxRecDepth 65536 in
theorem w_case : (Jvm.Cond.and given_1 narrow_1).before args0 about1 = true := by decide +kernel
theorem w_applies : (headSpec (Jvm.Cond.code x code maxLocals ret :: tables_1) room_1).applies x e0.platform about1 = true :=
  (Spec.applies_iff w_frames).mpr ⟨w_running, w_runnable, w_alone, w_named, w_hears, w_ripe, w_room, w_tables⟩
theorem atStart : AtStart classFile x code maxLocals ret World_1 tables_1 room_1 Calls_1 rest_1 Pre_1 launch0 p0 e0 about1 theMethod args0 below0 :=
  ⟨lists_1, trivial, launch0.admits_env _ _ _, launch0.least_env, fairChoices_fair.cas, fairChoices_fair.clock, w_frames, w_args, w_heap, w_applies, trivial, trivial, w_case⟩
end start1
theorem witness_1 : WitnessClaimed_1 := ⟨start1.p0, start1.e0, start1.about1, start1.theMethod, start1.args0, start1.below0, start1.atStart⟩
end Jvm.Pilot.@@N@@
