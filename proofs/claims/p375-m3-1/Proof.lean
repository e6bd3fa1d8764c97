import JvmDerived
import JvmDerived.Pilot.@@N@@Statement
import JvmDerived.Pilot.@@N@@Code
set_option linter.unusedVariables false
set_option linter.unusedSimpArgs false
namespace Jvm.RoadKit
open Sem ClassFile Op Lib Jvm.Stand Jvm.Free Jvm.LawKit
section New
variable {p : Program} {l : Launch} {e : Env} {R : Room} {s : State} {m : MethodId} {args : Array Value} {below : List Frame} {meth : Method} {c : Code} {T : State} {locs : List Loc} {cells slots : Nat}
theorem retI (X : Stand p l e R s m args below meth c T locs cells slots) (hx : p.tables.exec = Jvm.exec) {pc : Nat} {Ls : Array Slot} {z : Int32} {rest : List Value} (hret : meth.sig.returnType = some .int) (hd : decode c.code pc = .ok (.ireturn, 1)) {fs : List Frame}
    (hl : ∀ (f : JFrame) (acts : List Action), f.method = m → f.locked = none → f.entered = [] → (doReturn e (T.setTop f) acts (some (.int z))).1 = T.setFrames fs) : Steps p.tables e below (T.setTop (mkF m pc Ls (.int z :: rest))) (T.setFrames fs) := by
  have hm' : T.vm.method? m = some meth := X.method'
  have hn : narrow .int (.int z) = .int z := rfl
  show Steps p.tables e below (T.setTop { method := m, pc := pc, locals := Ls, stack := _ :: rest, locked := none }) _
  jvm_step X.here [X.here.top, hx, hd, hm', hret, hn]
  first | (intro acts; rw [hl _ acts rfl rfl rfl]) | rw [hl _ _ rfl rfl rfl]
  exact Steps.refl _
end New
theorem own_sta_keep {Z : State} {h h' : Heap} {C n d : String} {v : Value} {ws : List Addr} (F : Sta Z h C n d v) (K : Keep h h' ws) (q : ∀ x ∈ ws, ∀ c : Cell, h[x]? = some c → c.vm.isStatics = false) : Sta Z h' C n d v := by
  obtain ⟨cf, i, k, f, st, cell, h1, h2, h3, h4, h5, h6, h7⟩ := F
  exact ⟨cf, i, k, f, st, cell, h1, h2, h3, h4, K.2.1 st cell h5 (fun hm => by rw [q st hm cell h5] at h6; cases h6), h6, h7⟩
theorem own_plain_Exa {Z : State} {h : Heap} {a : Addr} {C : String} (F : Exa Z h a C) : ∀ c : Cell, h[a]? = some c → c.vm.isStatics = false := fun c hc => by
  obtain ⟨cell, _, h1, -, -, h4, -⟩ := F
  cases h1.symm.trans hc; exact h4
theorem own_plain_Arv {Z : State} {h : Heap} {a : Addr} {k : ClassId} {ty : FieldType} {n : Int32} {vs : List Value} {d : Value} (F : Arv Z h a k ty n vs d) : ∀ c : Cell, h[a]? = some c → c.vm.isStatics = false := fun c hc => by
  obtain ⟨cell, A, -⟩ := F
  cases A.1.symm.trans hc; exact A.plain
end Jvm.RoadKit
namespace Jvm.Pilot.@@N@@
open Jvm Jvm.ClassFile Sem Op Lib Jvm.Free Jvm.Stand Jvm.LawKit Jvm.RoadKit Bundle Jvm.Pilot.@@N@@.Jvm.D
def bI (P : Prop) [Decidable P] : Int32 := if P then 1 else 0
theorem bI_eq {P Q : Prop} [Decidable P] [Decidable Q] : bI P = bI Q ↔ (P ↔ Q) := by unfold bI; by_cases h : P <;> by_cases g : Q <;> simp [h, g]
theorem bI_eq1 {P : Prop} [Decidable P] : bI P = 1 ↔ P := by unfold bI; by_cases h : P <;> simp [h]
theorem bI_1eq {P : Prop} [Decidable P] : 1 = bI P ↔ P := by unfold bI; by_cases h : P <;> simp [h]
theorem bI_eq0 {P : Prop} [Decidable P] : bI P = 0 ↔ (P ↔ False) := by unfold bI; by_cases h : P <;> simp [h]
theorem bI_0eq {P : Prop} [Decidable P] : 0 = bI P ↔ (False ↔ P) := by unfold bI; by_cases h : P <;> simp [h]
theorem bI_t {P : Prop} [Decidable P] (h : P) : bI P = 1 := if_pos h
theorem bI_f {P : Prop} [Decidable P] (h : ¬ P) : bI P = 0 := if_neg h
theorem bI_iff {P Q : Prop} [Decidable P] [Decidable Q] (h : P ↔ Q) : bI P = bI Q := bI_eq.mpr h
theorem imp_iff_h {P Q : Prop} (h : P) : (P → Q) ↔ Q := ⟨fun f => f h, fun q _ => q⟩
theorem sel_t {P A B : Prop} (h : P) : ((P ∧ A) ∨ (¬ P ∧ B)) ↔ A := ⟨fun q => q.elim (fun z => z.2) (fun z => absurd h z.1), fun a => Or.inl ⟨h, a⟩⟩
theorem sel_f {P A B : Prop} (h : ¬ P) : ((P ∧ A) ∨ (¬ P ∧ B)) ↔ B := ⟨fun q => q.elim (fun z => absurd z.1 h) (fun z => z.2), fun b => Or.inr ⟨h, b⟩⟩
theorem bB_eq_t {P : Prop} [Decidable P] (h : ¬ P) : ifCond.holds .eq (bI P) = true := by rw [bI_f h]; rfl
theorem bB_eq_f {P : Prop} [Decidable P] (h : P) : ifCond.holds .eq (bI P) = false := by rw [bI_t h]; rfl
theorem bB_ne_t {P : Prop} [Decidable P] (h : P) : ifCond.holds .ne (bI P) = true := by rw [bI_t h]; rfl
theorem bB_ne_f {P : Prop} [Decidable P] (h : ¬ P) : ifCond.holds .ne (bI P) = false := by rw [bI_f h]; rfl
theorem bI_nar {P : Prop} [Decidable P] : nar .boolean (bI P) = bI P := by by_cases h : P <;> simp only [bI, h, if_true, if_false] <;> rfl
theorem bI_ret {P : Prop} [Decidable P] : (some (.int (nar .boolean (bI P))) : Option Value) = some (.int (bI P)) := by rw [bI_nar]
theorem bI_one {P : Prop} [Decidable P] (h : P) : (some (.int (nar .boolean (bI P))) : Option Value) = some (.int 1) := by rw [bI_nar, bI_t h]
theorem own_ite_ref {P : Prop} [Decidable P] {x y : Value} (h : x.isRef = true) (g : y.isRef = true) : (if P then x else y).isRef = true := by by_cases q : P <;> simp [q, h, g]
theorem own_fits_ref {t : FieldType} {x : Value} (ht : t.isReference = true) (h : x.isRef = true) : fits t x = true := by cases t <;> first | (cases ht; done) | (cases x <;> simp_all [fits, Value.isRef])
theorem own_eqI {args : Array Value} {s : State} {t : Term} {k : Int32} (h : (Cond.eq t (.int k)).value args s none s [] = some true) : t.eval args s none [] s = some (.int k) := by
  simp only [Cond.value, Term.eval] at h
  cases ht : t.eval args s none [] s with
  | none => simp [ht] at h
  | some v => cases v <;> simp [ht] at h ⊢; exact h
theorem own_eqR {args : Array Value} {s : State} {t u : Term} {v : Value} (hu : u.eval args s none [] s = some v) (hv : v.isRef = true) (h : (Cond.eq t u).value args s none s [] = some true) : t.eval args s none [] s = some v := by
  cases ht : t.eval args s none [] s with
  | none => simp [Cond.value, ht, hu] at h
  | some x =>
    rcases ref_cases hv with rfl | ⟨a, rfl⟩ <;> cases x <;> simp [Cond.value, ht, hu] at h ⊢ <;> exact h
theorem own_len {args : Array Value} {s : State} {t : Term} {a : Addr} {c : Cell} {ty : FieldType} {k : Int32} (ev : t.eval args s none [] s = some (.ref a)) (A : Arr s s.heap a c ty) (h : (Term.length t).eval args s none [] s = some (.int k)) : c.slots.size < 2 ^ 31 ∧ c.slots.size.toInt32 = k := by
  have ha := A.fin (Vm.Alike.refl _)
  by_cases q : c.slots.size < 2 ^ 31
  · rw [len_f ev ha q] at h; exact ⟨q, by injection h with h; injection h⟩
  · simp [Term.eval, ev, ha, q] at h

abbrev R1_0_0_13 : Room := { frames := 1, cells := 0, slots := 0, locals := 13 }
abbrev R1_0_0_12 : Room := { frames := 1, cells := 0, slots := 0, locals := 12 }
abbrev R2_0_0_24 : Room := { frames := 2, cells := 0, slots := 0, locals := 24 }
abbrev R3_0_0_36 : Room := { frames := 3, cells := 0, slots := 0, locals := 36 }
abbrev R0_0_0_0 : Room := { frames := 0, cells := 0, slots := 0, locals := 0 }
abbrev R1_1_10_20 : Room := { frames := 1, cells := 1, slots := 10, locals := 20 }
abbrev R2_1_10_40 : Room := { frames := 2, cells := 1, slots := 10, locals := 40 }
abbrev R3_1_10_60 : Room := { frames := 3, cells := 1, slots := 10, locals := 60 }
abbrev R4_1_10_80 : Room := { frames := 4, cells := 1, slots := 10, locals := 80 }
abbrev R3_0_0_60 : Room := { frames := 3, cells := 0, slots := 0, locals := 60 }
abbrev R4_0_0_80 : Room := { frames := 4, cells := 0, slots := 0, locals := 80 }
abbrev R1_0_0_20 : Room := { frames := 1, cells := 0, slots := 0, locals := 20 }
abbrev R2_0_0_60 : Room := { frames := 2, cells := 0, slots := 0, locals := 60 }
abbrev R5_7_28_108 : Room := { frames := 5, cells := 7, slots := 28, locals := 108 }
abbrev R1_1_0_20 : Room := { frames := 1, cells := 1, slots := 0, locals := 20 }
abbrev R1_1_2_20 : Room := { frames := 1, cells := 1, slots := 2, locals := 20 }
abbrev R1_1_4_20 : Room := { frames := 1, cells := 1, slots := 4, locals := 20 }
abbrev R1_1_6_20 : Room := { frames := 1, cells := 1, slots := 6, locals := 20 }
abbrev cj_117_8 : ByteArray := jdk_117_method_8_code
abbrev cj_22_1 : ByteArray := jdk_22_method_1_code
abbrev cj_39_1 : ByteArray := jdk_39_method_1_code
abbrev cj_38_2 : ByteArray := jdk_38_method_2_code
abbrev cj_38_8 : ByteArray := jdk_38_method_8_code
abbrev cj_29_65 : ByteArray := jdk_29_method_65_code
abbrev cj_38_6 : ByteArray := jdk_38_method_6_code
abbrev cj_38_7 : ByteArray := jdk_38_method_7_code
abbrev cj_38_24 : ByteArray := jdk_38_method_24_code
abbrev cj_38_25 : ByteArray := jdk_38_method_25_code
abbrev cj_33_22 : ByteArray := jdk_33_method_22_code
abbrev cj_33_27 : ByteArray := jdk_33_method_27_code
abbrev cj_41_11 : ByteArray := jdk_41_method_11_code
abbrev cj_31_17 : ByteArray := jdk_31_method_17_code
abbrev cj_38_18 : ByteArray := jdk_38_method_18_code
abbrev cj_38_20 : ByteArray := jdk_38_method_20_code
abbrev cp_37_1 : ByteArray := prog_37_method_1_code
abbrev cp_37_12 : ByteArray := prog_37_method_12_code
abbrev cp_37_10 : ByteArray := prog_37_method_10_code
abbrev cmethod_3 : ByteArray := method_3_code
theorem own_mr {n W : Nat} (h : n = W) : 2 * 0 + n ≤ W := by omega
abbrev cF : String := "com/example/narrow_bound/narrowbound/witness/CumulativeFunction"
abbrev aL : String := "java/util/ArrayList"
abbrev iN : String := "java/lang/Integer"
abbrev aB : String := "java/util/AbstractList"
abbrev iC : String := "java/lang/Integer$IntegerCache"
abbrev lO : String := "[Ljava/lang/Object;"
abbrev dV (x : Int64) : Value := .double (FP.l2d x)
abbrev dZ : Value := .double (FP.l2d (0 : Int64))
abbrev Pr (p : Program) (e : Env) (below : List Frame) (I T : State) (g : JFrame) : Prop := ∀ tgt, Steps p.tables e below (T.setTop g) tgt → Steps p.tables e below I tgt
abbrev HW (a0 : Array Value) (Z : State) : Prop := ∀ d ∈ tables_1, d.before a0 Z = true
theorem gw {Z : State} {a0 : Array Value} (hw : HW a0 Z) (n : Nat) {d : Jvm.Cond} (h : tables_1[n]? = some d) : d.before a0 Z = true := hw d (List.mem_of_getElem? h)
theorem own_ne {x b n : Nat} (h : x < n) (g : b = n) : x ≠ b := by omega
theorem own_ne2 {x b n : Nat} (h : x < n) (g : n ≤ b) : x ≠ b := Nat.ne_of_lt (Nat.lt_of_lt_of_le h g)
theorem own_le {x b n : Nat} (h : x ≤ n) (g : b = n) : x ≤ b := by omega

def EnvJ (Z : State) (kB : Nat) (h : Heap) (aE : Addr) (kE : ClassId) (aC : Addr) (kC : ClassId) (lC : List Value) (i0 i1 i2 : Addr) : Prop := (Sta Z h aL "DEFAULTCAPACITY_EMPTY_ELEMENTDATA" lO (.ref aE) ∧ Sta Z h iC "high" "I" (.int (127 : Int32)) ∧ Sta Z h iC "cache" "[Ljava/lang/Integer;" (.ref aC)) ∧ (Arv Z h aE kE (.object "java/lang/Object") (0 : Int32) [] .null ∧ Arv Z h aC kC (.object "java/lang/Integer") (256 : Int32) lC .null) ∧ (Exa Z h i0 iN ∧ Exa Z h i1 iN ∧ Exa Z h i2 iN) ∧ (Fld Z h i0 iN "value" "I" (.int (0 : Int32)) ∧ Fld Z h i1 iN "value" "I" (.int (1 : Int32)) ∧ Fld Z h i2 iN "value" "I" (.int (2 : Int32))) ∧ (lC.getD (128 : Int32).toNatClampNeg .null = .ref i0 ∧ lC.getD (129 : Int32).toNatClampNeg .null = .ref i1 ∧ lC.getD (130 : Int32).toNatClampNeg .null = .ref i2) ∧ aE < kB ∧ aC < kB ∧ i0 < kB ∧ i1 < kB ∧ i2 < kB
theorem EnvJ.sD {Z : State} {kB : Nat} {h : Heap} {aE : Addr} {kE : ClassId} {aC : Addr} {kC : ClassId} {lC : List Value} {i0 i1 i2 : Addr} (F : EnvJ Z kB h aE kE aC kC lC i0 i1 i2) : Sta Z h aL "DEFAULTCAPACITY_EMPTY_ELEMENTDATA" lO (.ref aE) := F.1.1
theorem EnvJ.sH {Z : State} {kB : Nat} {h : Heap} {aE : Addr} {kE : ClassId} {aC : Addr} {kC : ClassId} {lC : List Value} {i0 i1 i2 : Addr} (F : EnvJ Z kB h aE kE aC kC lC i0 i1 i2) : Sta Z h iC "high" "I" (.int (127 : Int32)) := F.1.2.1
theorem EnvJ.sC {Z : State} {kB : Nat} {h : Heap} {aE : Addr} {kE : ClassId} {aC : Addr} {kC : ClassId} {lC : List Value} {i0 i1 i2 : Addr} (F : EnvJ Z kB h aE kE aC kC lC i0 i1 i2) : Sta Z h iC "cache" "[Ljava/lang/Integer;" (.ref aC) := F.1.2.2
theorem EnvJ.vE {Z : State} {kB : Nat} {h : Heap} {aE : Addr} {kE : ClassId} {aC : Addr} {kC : ClassId} {lC : List Value} {i0 i1 i2 : Addr} (F : EnvJ Z kB h aE kE aC kC lC i0 i1 i2) : Arv Z h aE kE (.object "java/lang/Object") (0 : Int32) [] .null := F.2.1.1
theorem EnvJ.vC {Z : State} {kB : Nat} {h : Heap} {aE : Addr} {kE : ClassId} {aC : Addr} {kC : ClassId} {lC : List Value} {i0 i1 i2 : Addr} (F : EnvJ Z kB h aE kE aC kC lC i0 i1 i2) : Arv Z h aC kC (.object "java/lang/Integer") (256 : Int32) lC .null := F.2.1.2
theorem EnvJ.e0 {Z : State} {kB : Nat} {h : Heap} {aE : Addr} {kE : ClassId} {aC : Addr} {kC : ClassId} {lC : List Value} {i0 i1 i2 : Addr} (F : EnvJ Z kB h aE kE aC kC lC i0 i1 i2) : Exa Z h i0 iN := F.2.2.1.1
theorem EnvJ.e1 {Z : State} {kB : Nat} {h : Heap} {aE : Addr} {kE : ClassId} {aC : Addr} {kC : ClassId} {lC : List Value} {i0 i1 i2 : Addr} (F : EnvJ Z kB h aE kE aC kC lC i0 i1 i2) : Exa Z h i1 iN := F.2.2.1.2.1
theorem EnvJ.e2 {Z : State} {kB : Nat} {h : Heap} {aE : Addr} {kE : ClassId} {aC : Addr} {kC : ClassId} {lC : List Value} {i0 i1 i2 : Addr} (F : EnvJ Z kB h aE kE aC kC lC i0 i1 i2) : Exa Z h i2 iN := F.2.2.1.2.2
theorem EnvJ.f0 {Z : State} {kB : Nat} {h : Heap} {aE : Addr} {kE : ClassId} {aC : Addr} {kC : ClassId} {lC : List Value} {i0 i1 i2 : Addr} (F : EnvJ Z kB h aE kE aC kC lC i0 i1 i2) : Fld Z h i0 iN "value" "I" (.int (0 : Int32)) := F.2.2.2.1.1
theorem EnvJ.f1 {Z : State} {kB : Nat} {h : Heap} {aE : Addr} {kE : ClassId} {aC : Addr} {kC : ClassId} {lC : List Value} {i0 i1 i2 : Addr} (F : EnvJ Z kB h aE kE aC kC lC i0 i1 i2) : Fld Z h i1 iN "value" "I" (.int (1 : Int32)) := F.2.2.2.1.2.1
theorem EnvJ.f2 {Z : State} {kB : Nat} {h : Heap} {aE : Addr} {kE : ClassId} {aC : Addr} {kC : ClassId} {lC : List Value} {i0 i1 i2 : Addr} (F : EnvJ Z kB h aE kE aC kC lC i0 i1 i2) : Fld Z h i2 iN "value" "I" (.int (2 : Int32)) := F.2.2.2.1.2.2
theorem EnvJ.t0 {Z : State} {kB : Nat} {h : Heap} {aE : Addr} {kE : ClassId} {aC : Addr} {kC : ClassId} {lC : List Value} {i0 i1 i2 : Addr} (F : EnvJ Z kB h aE kE aC kC lC i0 i1 i2) : lC.getD (128 : Int32).toNatClampNeg .null = .ref i0 := F.2.2.2.2.1.1
theorem EnvJ.t1 {Z : State} {kB : Nat} {h : Heap} {aE : Addr} {kE : ClassId} {aC : Addr} {kC : ClassId} {lC : List Value} {i0 i1 i2 : Addr} (F : EnvJ Z kB h aE kE aC kC lC i0 i1 i2) : lC.getD (129 : Int32).toNatClampNeg .null = .ref i1 := F.2.2.2.2.1.2.1
theorem EnvJ.t2 {Z : State} {kB : Nat} {h : Heap} {aE : Addr} {kE : ClassId} {aC : Addr} {kC : ClassId} {lC : List Value} {i0 i1 i2 : Addr} (F : EnvJ Z kB h aE kE aC kC lC i0 i1 i2) : lC.getD (130 : Int32).toNatClampNeg .null = .ref i2 := F.2.2.2.2.1.2.2
theorem EnvJ.bE {Z : State} {kB : Nat} {h : Heap} {aE : Addr} {kE : ClassId} {aC : Addr} {kC : ClassId} {lC : List Value} {i0 i1 i2 : Addr} (F : EnvJ Z kB h aE kE aC kC lC i0 i1 i2) : aE < kB := F.2.2.2.2.2.1
theorem EnvJ.bC {Z : State} {kB : Nat} {h : Heap} {aE : Addr} {kE : ClassId} {aC : Addr} {kC : ClassId} {lC : List Value} {i0 i1 i2 : Addr} (F : EnvJ Z kB h aE kE aC kC lC i0 i1 i2) : aC < kB := F.2.2.2.2.2.2.1
theorem EnvJ.b0 {Z : State} {kB : Nat} {h : Heap} {aE : Addr} {kE : ClassId} {aC : Addr} {kC : ClassId} {lC : List Value} {i0 i1 i2 : Addr} (F : EnvJ Z kB h aE kE aC kC lC i0 i1 i2) : i0 < kB := F.2.2.2.2.2.2.2.1
theorem EnvJ.b1 {Z : State} {kB : Nat} {h : Heap} {aE : Addr} {kE : ClassId} {aC : Addr} {kC : ClassId} {lC : List Value} {i0 i1 i2 : Addr} (F : EnvJ Z kB h aE kE aC kC lC i0 i1 i2) : i1 < kB := F.2.2.2.2.2.2.2.2.1
theorem EnvJ.b2 {Z : State} {kB : Nat} {h : Heap} {aE : Addr} {kE : ClassId} {aC : Addr} {kC : ClassId} {lC : List Value} {i0 i1 i2 : Addr} (F : EnvJ Z kB h aE kE aC kC lC i0 i1 i2) : i2 < kB := F.2.2.2.2.2.2.2.2.2
theorem EnvJ.ext {Z : State} {kB : Nat} {h : Heap} {aE : Addr} {kE : ClassId} {aC : Addr} {kC : ClassId} {lC : List Value} {i0 i1 i2 : Addr} {h' : Heap} (F : EnvJ Z kB h aE kE aC kC lC i0 i1 i2) (E : Ext h h') : EnvJ Z kB h' aE kE aC kC lC i0 i1 i2 := by
  obtain ⟨⟨s1, s2, s3⟩, ⟨v1, v2⟩, ⟨e0, e1, e2⟩, ⟨f0, f1, f2⟩, t, b1, b2, b3, b4, b5⟩ := F
  exact ⟨⟨s1.ext E, s2.ext E, s3.ext E⟩, ⟨v1.ext E, v2.ext E⟩, ⟨e0.ext E, e1.ext E, e2.ext E⟩, ⟨f0.ext E, f1.ext E, f2.ext E⟩, t, b1, b2, b3, b4, b5⟩
theorem EnvJ.wr {Z : State} {kB : Nat} {h : Heap} {aE : Addr} {kE : ClassId} {aC : Addr} {kC : ClassId} {lC : List Value} {i0 i1 i2 : Addr} {h' : Heap} {y : Addr} {sl : Nat} {v : Value} (F : EnvJ Z kB h aE kE aC kC lC i0 i1 i2) (W : Wr h h' y sl v) (q : kB ≤ y) : EnvJ Z kB h' aE kE aC kC lC i0 i1 i2 := by
  obtain ⟨⟨s1, s2, s3⟩, ⟨v1, v2⟩, ⟨e0, e1, e2⟩, ⟨f0, f1, f2⟩, t, b1, b2, b3, b4, b5⟩ := F
  exact ⟨⟨s1.wr W, s2.wr W, s3.wr W⟩, ⟨v1.other W (own_ne2 b1 q), v2.other W (own_ne2 b2 q)⟩, ⟨e0.wr W, e1.wr W, e2.wr W⟩, ⟨f0.other W (Or.inl (own_ne2 b3 q)), f1.other W (Or.inl (own_ne2 b4 q)), f2.other W (Or.inl (own_ne2 b5 q))⟩, t, b1, b2, b3, b4, b5⟩
theorem EnvJ.keep {Z : State} {kB : Nat} {h : Heap} {aE : Addr} {kE : ClassId} {aC : Addr} {kC : ClassId} {lC : List Value} {i0 i1 i2 : Addr} {h' : Heap} {ys : List Addr} (F : EnvJ Z kB h aE kE aC kC lC i0 i1 i2) (K : Keep h h' ys) (q : ∀ x ∈ ys, kB ≤ x) (r : ∀ x ∈ ys, ∀ c : Cell, h[x]? = some c → c.vm.isStatics = false) : EnvJ Z kB h' aE kE aC kC lC i0 i1 i2 := by
  have nn : ∀ {x : Addr}, x < kB → x ∉ ys := fun hx hm => absurd (q _ hm) (Nat.not_le_of_lt hx)
  obtain ⟨⟨s1, s2, s3⟩, ⟨v1, v2⟩, ⟨e0, e1, e2⟩, ⟨f0, f1, f2⟩, t, b1, b2, b3, b4, b5⟩ := F
  exact ⟨⟨own_sta_keep s1 K r, own_sta_keep s2 K r, own_sta_keep s3 K r⟩, ⟨v1.keep K (nn b1), v2.keep K (nn b2)⟩, ⟨e0.keep K, e1.keep K, e2.keep K⟩, ⟨f0.keep K (nn b3), f1.keep K (nn b4), f2.keep K (nn b5)⟩, t, b1, b2, b3, b4, b5⟩
abbrev LA (p1 p2 p3 p4 p5 : Int32) (y5 : Slot) (tu0 tu1 tu2 vu0 vu1 vu2 : Int64) (y20 y21 y22 y23 y24 y25 : Slot) : Array Slot := #[.val (.int p1), .val (.int p2), .val (.int p3), .val (.int p4), .val (.int p5), y5, .val (dV tu0), .second, .val (.int (p3 &&& (3 : Int32))), .val (.int (((p3.toUInt32 >>> ((2 : Int32) &&& 31).toUInt32).toInt32) &&& (3 : Int32))), .val (dV tu1), .second, .val (dV tu2), .second, .val (dV vu0), .second, .val (dV vu1), .second, .val (dV vu2), .second, y20, y21, y22, y23, y24, y25]
abbrev M0 : MethodName := ⟨"java/lang/Double", "isFinite", "(D)Z"⟩
abbrev M1 : MethodName := ⟨"java/util/AbstractCollection", "<init>", "()V"⟩
abbrev M2 : MethodName := ⟨"java/util/AbstractList", "<init>", "()V"⟩
abbrev M3 : MethodName := ⟨"java/util/ArrayList", "<init>", "()V"⟩
abbrev M4 : MethodName := ⟨"java/util/ArrayList", "size", "()I"⟩
abbrev M5 : MethodName := ⟨"java/lang/Math", "max", "(II)I"⟩
abbrev M6 : MethodName := ⟨"java/util/ArrayList", "grow", "(I)[Ljava/lang/Object;"⟩
abbrev M7 : MethodName := ⟨"java/util/ArrayList", "grow", "()[Ljava/lang/Object;"⟩
abbrev M8 : MethodName := ⟨"java/util/ArrayList", "add", "(Ljava/lang/Object;[Ljava/lang/Object;I)V"⟩
abbrev M9 : MethodName := ⟨"java/util/ArrayList", "add", "(Ljava/lang/Object;)Z"⟩
abbrev M10 : MethodName := ⟨"java/lang/Integer", "valueOf", "(I)Ljava/lang/Integer;"⟩
abbrev M11 : MethodName := ⟨"java/lang/Integer", "intValue", "()I"⟩
abbrev M12 : MethodName := ⟨"jdk/internal/util/Preconditions", "checkIndex", "(IILjava/util/function/BiFunction;)I"⟩
abbrev M13 : MethodName := ⟨"java/util/Objects", "checkIndex", "(II)I"⟩
abbrev M14 : MethodName := ⟨"java/util/ArrayList", "elementData", "(I)Ljava/lang/Object;"⟩
abbrev M15 : MethodName := ⟨"java/util/ArrayList", "get", "(I)Ljava/lang/Object;"⟩
abbrev M16 : MethodName := ⟨"java/util/List", "size", "()I"⟩
abbrev M17 : MethodName := ⟨"java/util/List", "get", "(I)Ljava/lang/Object;"⟩
abbrev M18 : MethodName := ⟨"com/example/narrow_bound/narrowbound/witness/CumulativeFunction", "<init>", "([D[D)V"⟩
abbrev M19 : MethodName := ⟨"java/util/List", "add", "(Ljava/lang/Object;)Z"⟩
abbrev M20 : MethodName := ⟨"com/example/narrow_bound/narrowbound/witness/CumulativeFunction", "runValue", "(I)D"⟩
abbrev M21 : MethodName := ⟨"com/example/narrow_bound/narrowbound/witness/CumulativeFunction", "levels", "()[D"⟩
abbrev M22 : MethodName := ⟨"com/example/narrow_bound/narrowbound/witness/CumulativeFunctionLevelsPinLaw", "same", "([D[DII)Z"⟩
abbrev M23 : MethodName := ⟨"java/lang/Object", "<init>", "()V"⟩
abbrev M24 : MethodName := ⟨"[D", "clone", "()Ljava/lang/Object;"⟩
abbrev M25 : MethodName := ⟨"java/lang/Object", "clone", "()Ljava/lang/Object;"⟩
abbrev M26 : MethodName := ⟨"java/lang/Math", "abs", "(D)D"⟩
theorem tw0 {Z a0} (hw : HW a0 Z) : (Jvm.Cond.arrayClass Jvm.ClassFile.FieldType.double).before a0 Z = true := gw hw 0 rfl
theorem tw1 {Z a0} (hw : HW a0 Z) : (Jvm.Cond.classLink "com/example/narrow_bound/narrowbound/witness/CumulativeFunctionLevelsPinLaw" (7 : Nat) cF).before a0 Z = true := gw hw 1 rfl
theorem tw2 {Z a0} (hw : HW a0 Z) : (Jvm.Cond.instantiable cF (5 : Nat)).before a0 Z = true := gw hw 2 rfl
theorem tw3 {Z a0} (hw : HW a0 Z) : (Jvm.Cond.initialized cF).before a0 Z = true := gw hw 3 rfl
theorem tw4 {Z a0} (hw : HW a0 Z) : (Jvm.Cond.methodLink "com/example/narrow_bound/narrowbound/witness/CumulativeFunctionLevelsPinLaw" (9 : Nat) M18).before a0 Z = true := gw hw 4 rfl
theorem tw5 {Z a0} (hw : HW a0 Z) : (Jvm.Cond.instanceMethod M18).before a0 Z = true := gw hw 5 rfl
theorem tw6 {Z a0} (hw : HW a0 Z) : (Jvm.Cond.code M18 prog_37_method_1_code (7 : Nat) (Option.none : Option Jvm.ClassFile.FieldType)).before a0 Z = true := gw hw 6 rfl
theorem tw7 {Z a0} (hw : HW a0 Z) : (Jvm.Cond.methodLink cF (1 : Nat) M23).before a0 Z = true := gw hw 7 rfl
theorem tw8 {Z a0} (hw : HW a0 Z) : (Jvm.Cond.instanceMethod M23).before a0 Z = true := gw hw 8 rfl
theorem tw9 {Z a0} (hw : HW a0 Z) : (Jvm.Cond.code M23 object_method_1_code (1 : Nat) (Option.none : Option Jvm.ClassFile.FieldType)).before a0 Z = true := gw hw 9 rfl
theorem tw10 {Z a0} (hw : HW a0 Z) : (Jvm.Cond.methodLink cF (32 : Nat) M24).before a0 Z = true := gw hw 10 rfl
theorem tw11 {Z a0} (hw : HW a0 Z) : (Jvm.Cond.sameMethod "[D" "java/lang/Object" "clone" "()Ljava/lang/Object;").before a0 Z = true := gw hw 11 rfl
theorem tw13 {Z a0} (hw : HW a0 Z) : (Jvm.Cond.instanceMethod M25).before a0 Z = true := gw hw 13 rfl
theorem tw14 {Z a0} (hw : HW a0 Z) : (Jvm.Cond.selects "[D" M24 M25).before a0 Z = true := gw hw 14 rfl
theorem tw15 {Z a0} (hw : HW a0 Z) : (Jvm.Cond.native M25).before a0 Z = true := gw hw 15 rfl
theorem tw16 {Z a0} (hw : HW a0 Z) : (Jvm.Cond.castable "[D" "java/lang/Cloneable").before a0 Z = true := gw hw 16 rfl
theorem tw17 {Z a0} (hw : HW a0 Z) : (Jvm.Cond.classLink cF (33 : Nat) "[D").before a0 Z = true := gw hw 17 rfl
theorem tw19 {Z a0} (hw : HW a0 Z) : (Jvm.Cond.fieldLink cF (38 : Nat) cF "times" "[D").before a0 Z = true := gw hw 19 rfl
theorem tw20 {Z a0} (hw : HW a0 Z) : (Jvm.Cond.laysFinal cF cF "times" "[D").before a0 Z = true := gw hw 20 rfl
theorem tw21 {Z a0} (hw : HW a0 Z) : (Jvm.Cond.fieldLink cF (43 : Nat) cF "values" "[D").before a0 Z = true := gw hw 21 rfl
theorem tw22 {Z a0} (hw : HW a0 Z) : (Jvm.Cond.laysFinal cF cF "values" "[D").before a0 Z = true := gw hw 22 rfl
theorem tw23 {Z a0} (hw : HW a0 Z) : (Jvm.Cond.classLink cF (46 : Nat) aL).before a0 Z = true := gw hw 23 rfl
theorem tw24 {Z a0} (hw : HW a0 Z) : (Jvm.Cond.instantiable aL (3 : Nat)).before a0 Z = true := gw hw 24 rfl
theorem tw25 {Z a0} (hw : HW a0 Z) : (Jvm.Cond.initialized aL).before a0 Z = true := gw hw 25 rfl
theorem tw26 {Z a0} (hw : HW a0 Z) : (Jvm.Cond.methodLink cF (48 : Nat) M3).before a0 Z = true := gw hw 26 rfl
theorem tw27 {Z a0} (hw : HW a0 Z) : (Jvm.Cond.instanceMethod M3).before a0 Z = true := gw hw 27 rfl
theorem tw28 {Z a0} (hw : HW a0 Z) : (Jvm.Cond.code M3 jdk_38_method_2_code (1 : Nat) (Option.none : Option Jvm.ClassFile.FieldType)).before a0 Z = true := gw hw 28 rfl
theorem tw29 {Z a0} (hw : HW a0 Z) : (Jvm.Cond.methodLink aL (1 : Nat) M2).before a0 Z = true := gw hw 29 rfl
theorem tw30 {Z a0} (hw : HW a0 Z) : (Jvm.Cond.instanceMethod M2).before a0 Z = true := gw hw 30 rfl
theorem tw33 {Z a0} (hw : HW a0 Z) : (Jvm.Cond.initialized aB).before a0 Z = true := gw hw 33 rfl
theorem tw34 {Z a0} (hw : HW a0 Z) : (Jvm.Cond.code M2 jdk_39_method_1_code (1 : Nat) (Option.none : Option Jvm.ClassFile.FieldType)).before a0 Z = true := gw hw 34 rfl
theorem tw35 {Z a0} (hw : HW a0 Z) : (Jvm.Cond.methodLink aB (1 : Nat) M1).before a0 Z = true := gw hw 35 rfl
theorem tw36 {Z a0} (hw : HW a0 Z) : (Jvm.Cond.instanceMethod M1).before a0 Z = true := gw hw 36 rfl
theorem tw39 {Z a0} (hw : HW a0 Z) : (Jvm.Cond.initialized "java/util/AbstractCollection").before a0 Z = true := gw hw 39 rfl
theorem tw40 {Z a0} (hw : HW a0 Z) : (Jvm.Cond.code M1 jdk_22_method_1_code (1 : Nat) (Option.none : Option Jvm.ClassFile.FieldType)).before a0 Z = true := gw hw 40 rfl
theorem tw41 {Z a0} (hw : HW a0 Z) : (Jvm.Cond.methodLink "java/util/AbstractCollection" (1 : Nat) M23).before a0 Z = true := gw hw 41 rfl
theorem tw42 {Z a0} (hw : HW a0 Z) : (Jvm.Cond.fieldLink aB (7 : Nat) aB "modCount" "I").before a0 Z = true := gw hw 42 rfl
theorem tw43 {Z a0} (hw : HW a0 Z) : (Jvm.Cond.lays aL aB "modCount" "I").before a0 Z = true := gw hw 43 rfl
theorem tw44 {Z a0} (hw : HW a0 Z) : (Jvm.Cond.fieldLink aL (39 : Nat) aL "DEFAULTCAPACITY_EMPTY_ELEMENTDATA" lO).before a0 Z = true := gw hw 44 rfl
theorem tw45 {Z a0} (hw : HW a0 Z) : (Jvm.Cond.fieldLink aL (9 : Nat) aL "elementData" lO).before a0 Z = true := gw hw 45 rfl
theorem tw46 {Z a0} (hw : HW a0 Z) : (Jvm.Cond.lays aL aL "elementData" lO).before a0 Z = true := gw hw 46 rfl
theorem tw47 {Z a0} (hw : HW a0 Z) : (Jvm.Cond.methodLink cF (61 : Nat) M16).before a0 Z = true := gw hw 47 rfl
theorem tw48 {Z a0} (hw : HW a0 Z) : (Jvm.Cond.declares M16).before a0 Z = true := gw hw 48 rfl
theorem tw49 {Z a0} (hw : HW a0 Z) : (Jvm.Cond.interfaceMethod "java/util/List" "java/util/List" "size" "()I").before a0 Z = true := gw hw 49 rfl
theorem tw50 {Z a0} (hw : HW a0 Z) : (Jvm.Cond.selects aL M16 M4).before a0 Z = true := gw hw 50 rfl
theorem tw51 {Z a0} (hw : HW a0 Z) : (Jvm.Cond.instanceMethod M4).before a0 Z = true := gw hw 51 rfl
theorem tw52 {Z a0} (hw : HW a0 Z) : (Jvm.Cond.publicMethod M4).before a0 Z = true := gw hw 52 rfl
theorem tw53 {Z a0} (hw : HW a0 Z) : (Jvm.Cond.unhidden aL "size" "()I").before a0 Z = true := gw hw 53 rfl
theorem tw54 {Z a0} (hw : HW a0 Z) : (Jvm.Cond.castable aL "java/util/List").before a0 Z = true := gw hw 54 rfl
theorem tw55 {Z a0} (hw : HW a0 Z) : (Jvm.Cond.code M4 jdk_38_method_8_code (1 : Nat) (Option.some Jvm.ClassFile.FieldType.int)).before a0 Z = true := gw hw 55 rfl
theorem tw56 {Z a0} (hw : HW a0 Z) : (Jvm.Cond.fieldLink aL (48 : Nat) aL "size" "I").before a0 Z = true := gw hw 56 rfl
theorem tw57 {Z a0} (hw : HW a0 Z) : (Jvm.Cond.lays aL aL "size" "I").before a0 Z = true := gw hw 57 rfl
theorem tw58 {Z a0} (hw : HW a0 Z) : (Jvm.Cond.fieldLink cF (65 : Nat) cF "instants" "[D").before a0 Z = true := gw hw 58 rfl
theorem tw59 {Z a0} (hw : HW a0 Z) : (Jvm.Cond.laysFinal cF cF "instants" "[D").before a0 Z = true := gw hw 59 rfl
theorem tw60 {Z a0} (hw : HW a0 Z) : (Jvm.Cond.fieldLink cF (68 : Nat) cF "lefts" "[D").before a0 Z = true := gw hw 60 rfl
theorem tw61 {Z a0} (hw : HW a0 Z) : (Jvm.Cond.laysFinal cF cF "lefts" "[D").before a0 Z = true := gw hw 61 rfl
theorem tw62 {Z a0} (hw : HW a0 Z) : (Jvm.Cond.fieldLink cF (71 : Nat) cF "rights" "[D").before a0 Z = true := gw hw 62 rfl
theorem tw63 {Z a0} (hw : HW a0 Z) : (Jvm.Cond.laysFinal cF cF "rights" "[D").before a0 Z = true := gw hw 63 rfl
theorem tw64 {Z a0} (hw : HW a0 Z) : (Jvm.Cond.methodLink "com/example/narrow_bound/narrowbound/witness/CumulativeFunctionLevelsPinLaw" (12 : Nat) M21).before a0 Z = true := gw hw 64 rfl
theorem tw65 {Z a0} (hw : HW a0 Z) : (Jvm.Cond.declares M21).before a0 Z = true := gw hw 65 rfl
theorem tw66 {Z a0} (hw : HW a0 Z) : (Jvm.Cond.instanceMethod M21).before a0 Z = true := gw hw 66 rfl
theorem tw67 {Z a0} (hw : HW a0 Z) : (Jvm.Cond.selects cF M21 M21).before a0 Z = true := gw hw 67 rfl
theorem tw68 {Z a0} (hw : HW a0 Z) : (Jvm.Cond.code M21 prog_37_method_10_code (3 : Nat) (Option.some (Jvm.ClassFile.FieldType.array Jvm.ClassFile.FieldType.double))).before a0 Z = true := gw hw 68 rfl
theorem tw69 {Z a0} (hw : HW a0 Z) : (Jvm.Cond.methodLink "com/example/narrow_bound/narrowbound/witness/CumulativeFunctionLevelsPinLaw" (16 : Nat) M22).before a0 Z = true := gw hw 69 rfl
theorem tw70 {Z a0} (hw : HW a0 Z) : (Jvm.Cond.static M22).before a0 Z = true := gw hw 70 rfl
theorem tw71 {Z a0} (hw : HW a0 Z) : (Jvm.Cond.initialized "com/example/narrow_bound/narrowbound/witness/CumulativeFunctionLevelsPinLaw").before a0 Z = true := gw hw 71 rfl
theorem tw72 {Z a0} (hw : HW a0 Z) : (Jvm.Cond.code M22 method_3_code (4 : Nat) (Option.some Jvm.ClassFile.FieldType.boolean)).before a0 Z = true := gw hw 72 rfl
theorem tw73 {Z a0} (hw : HW a0 Z) : (Jvm.Cond.methodLink cF (16 : Nat) M0).before a0 Z = true := gw hw 73 rfl
theorem tw74 {Z a0} (hw : HW a0 Z) : (Jvm.Cond.static M0).before a0 Z = true := gw hw 74 rfl
theorem tw75 {Z a0} (hw : HW a0 Z) : (Jvm.Cond.initialized "java/lang/Double").before a0 Z = true := gw hw 75 rfl
theorem tw76 {Z a0} (hw : HW a0 Z) : (Jvm.Cond.code M0 jdk_117_method_8_code (2 : Nat) (Option.some Jvm.ClassFile.FieldType.boolean)).before a0 Z = true := gw hw 76 rfl
theorem tw77 {Z a0} (hw : HW a0 Z) : (Jvm.Cond.methodLink "java/lang/Double" (38 : Nat) M26).before a0 Z = true := gw hw 77 rfl
theorem tw78 {Z a0} (hw : HW a0 Z) : (Jvm.Cond.static M26).before a0 Z = true := gw hw 78 rfl
theorem tw79 {Z a0} (hw : HW a0 Z) : (Jvm.Cond.initialized "java/lang/Math").before a0 Z = true := gw hw 79 rfl
theorem tw80 {Z a0} (hw : HW a0 Z) : (Jvm.Cond.code M26 jdk_29_method_64_code (2 : Nat) (Option.some Jvm.ClassFile.FieldType.double)).before a0 Z = true := gw hw 80 rfl
theorem tw81 {Z a0} (hw : HW a0 Z) : (Jvm.Cond.constantDouble "java/lang/Double" (111 : Nat) (9218868437227405311 : UInt64)).before a0 Z = true := gw hw 81 rfl
theorem tw82 {Z a0} (hw : HW a0 Z) : (Jvm.Cond.methodLink cF (49 : Nat) M10).before a0 Z = true := gw hw 82 rfl
theorem tw83 {Z a0} (hw : HW a0 Z) : (Jvm.Cond.static M10).before a0 Z = true := gw hw 83 rfl
theorem tw84 {Z a0} (hw : HW a0 Z) : (Jvm.Cond.initialized iN).before a0 Z = true := gw hw 84 rfl
theorem tw85 {Z a0} (hw : HW a0 Z) : (Jvm.Cond.code M10 jdk_33_method_22_code (1 : Nat) (Option.some (Jvm.ClassFile.FieldType.object iN))).before a0 Z = true := gw hw 85 rfl
theorem tw86 {Z a0} (hw : HW a0 Z) : (Jvm.Cond.fieldLink iN (191 : Nat) iC "high" "I").before a0 Z = true := gw hw 86 rfl
theorem tw87 {Z a0} (hw : HW a0 Z) : (Jvm.Cond.initialized iC).before a0 Z = true := gw hw 87 rfl
theorem tw88 {Z a0} (hw : HW a0 Z) : (Jvm.Cond.fieldLink iN (195 : Nat) iC "cache" "[Ljava/lang/Integer;").before a0 Z = true := gw hw 88 rfl
theorem tw89 {Z a0} (hw : HW a0 Z) : (Jvm.Cond.methodLink cF (55 : Nat) M19).before a0 Z = true := gw hw 89 rfl
theorem tw90 {Z a0} (hw : HW a0 Z) : (Jvm.Cond.declares M19).before a0 Z = true := gw hw 90 rfl
theorem tw91 {Z a0} (hw : HW a0 Z) : (Jvm.Cond.interfaceMethod "java/util/List" "java/util/List" "add" "(Ljava/lang/Object;)Z").before a0 Z = true := gw hw 91 rfl
theorem tw92 {Z a0} (hw : HW a0 Z) : (Jvm.Cond.selects aL M19 M9).before a0 Z = true := gw hw 92 rfl
theorem tw93 {Z a0} (hw : HW a0 Z) : (Jvm.Cond.instanceMethod M9).before a0 Z = true := gw hw 93 rfl
theorem tw94 {Z a0} (hw : HW a0 Z) : (Jvm.Cond.publicMethod M9).before a0 Z = true := gw hw 94 rfl
theorem tw95 {Z a0} (hw : HW a0 Z) : (Jvm.Cond.unhidden aL "add" "(Ljava/lang/Object;)Z").before a0 Z = true := gw hw 95 rfl
theorem tw96 {Z a0} (hw : HW a0 Z) : (Jvm.Cond.code M9 jdk_38_method_25_code (2 : Nat) (Option.some Jvm.ClassFile.FieldType.boolean)).before a0 Z = true := gw hw 96 rfl
theorem tw97 {Z a0} (hw : HW a0 Z) : (Jvm.Cond.fieldLink aL (63 : Nat) aL "modCount" "I").before a0 Z = true := gw hw 97 rfl
theorem tw98 {Z a0} (hw : HW a0 Z) : (Jvm.Cond.sameField aL aB "modCount" "I").before a0 Z = true := gw hw 98 rfl
theorem tw99 {Z a0} (hw : HW a0 Z) : (Jvm.Cond.methodLink aL (131 : Nat) M8).before a0 Z = true := gw hw 99 rfl
theorem tw100 {Z a0} (hw : HW a0 Z) : (Jvm.Cond.instanceMethod M8).before a0 Z = true := gw hw 100 rfl
theorem tw101 {Z a0} (hw : HW a0 Z) : (Jvm.Cond.privateMethod M8).before a0 Z = true := gw hw 101 rfl
theorem tw102 {Z a0} (hw : HW a0 Z) : (Jvm.Cond.selects aL M8 M8).before a0 Z = true := gw hw 102 rfl
theorem tw103 {Z a0} (hw : HW a0 Z) : (Jvm.Cond.code M8 jdk_38_method_24_code (4 : Nat) (Option.none : Option Jvm.ClassFile.FieldType)).before a0 Z = true := gw hw 103 rfl
theorem tw104 {Z a0} (hw : HW a0 Z) : (Jvm.Cond.methodLink aL (129 : Nat) M7).before a0 Z = true := gw hw 104 rfl
theorem tw105 {Z a0} (hw : HW a0 Z) : (Jvm.Cond.instanceMethod M7).before a0 Z = true := gw hw 105 rfl
theorem tw106 {Z a0} (hw : HW a0 Z) : (Jvm.Cond.privateMethod M7).before a0 Z = true := gw hw 106 rfl
theorem tw107 {Z a0} (hw : HW a0 Z) : (Jvm.Cond.selects aL M7 M7).before a0 Z = true := gw hw 107 rfl
theorem tw108 {Z a0} (hw : HW a0 Z) : (Jvm.Cond.code M7 jdk_38_method_7_code (1 : Nat) (Option.some (Jvm.ClassFile.FieldType.array (Jvm.ClassFile.FieldType.object "java/lang/Object")))).before a0 Z = true := gw hw 108 rfl
theorem tw109 {Z a0} (hw : HW a0 Z) : (Jvm.Cond.methodLink aL (69 : Nat) M6).before a0 Z = true := gw hw 109 rfl
theorem tw110 {Z a0} (hw : HW a0 Z) : (Jvm.Cond.instanceMethod M6).before a0 Z = true := gw hw 110 rfl
theorem tw111 {Z a0} (hw : HW a0 Z) : (Jvm.Cond.privateMethod M6).before a0 Z = true := gw hw 111 rfl
theorem tw112 {Z a0} (hw : HW a0 Z) : (Jvm.Cond.selects aL M6 M6).before a0 Z = true := gw hw 112 rfl
theorem tw113 {Z a0} (hw : HW a0 Z) : (Jvm.Cond.code M6 jdk_38_method_6_code (4 : Nat) (Option.some (Jvm.ClassFile.FieldType.array (Jvm.ClassFile.FieldType.object "java/lang/Object")))).before a0 Z = true := gw hw 113 rfl
theorem tw114 {Z a0} (hw : HW a0 Z) : (Jvm.Cond.methodLink aL (79 : Nat) M5).before a0 Z = true := gw hw 114 rfl
theorem tw115 {Z a0} (hw : HW a0 Z) : (Jvm.Cond.static M5).before a0 Z = true := gw hw 115 rfl
theorem tw116 {Z a0} (hw : HW a0 Z) : (Jvm.Cond.code M5 jdk_29_method_65_code (2 : Nat) (Option.some Jvm.ClassFile.FieldType.int)).before a0 Z = true := gw hw 116 rfl
theorem tw117 {Z a0} (hw : HW a0 Z) : (Jvm.Cond.classLink aL (7 : Nat) "java/lang/Object").before a0 Z = true := gw hw 117 rfl
theorem tw118 {Z a0} (hw : HW a0 Z) : (Jvm.Cond.arrayOver (Jvm.ClassFile.FieldType.object "java/lang/Object")).before a0 Z = true := gw hw 118 rfl
theorem tw119 {Z a0} (hw : HW a0 Z) : (Jvm.Cond.castable iN "java/lang/Object").before a0 Z = true := gw hw 119 rfl
theorem tw120 {Z a0} (hw : HW a0 Z) : (Jvm.Cond.methodLink cF (74 : Nat) M17).before a0 Z = true := gw hw 120 rfl
theorem tw121 {Z a0} (hw : HW a0 Z) : (Jvm.Cond.declares M17).before a0 Z = true := gw hw 121 rfl
theorem tw122 {Z a0} (hw : HW a0 Z) : (Jvm.Cond.interfaceMethod "java/util/List" "java/util/List" "get" "(I)Ljava/lang/Object;").before a0 Z = true := gw hw 122 rfl
theorem tw123 {Z a0} (hw : HW a0 Z) : (Jvm.Cond.selects aL M17 M15).before a0 Z = true := gw hw 123 rfl
theorem tw124 {Z a0} (hw : HW a0 Z) : (Jvm.Cond.instanceMethod M15).before a0 Z = true := gw hw 124 rfl
theorem tw125 {Z a0} (hw : HW a0 Z) : (Jvm.Cond.publicMethod M15).before a0 Z = true := gw hw 125 rfl
theorem tw126 {Z a0} (hw : HW a0 Z) : (Jvm.Cond.unhidden aL "get" "(I)Ljava/lang/Object;").before a0 Z = true := gw hw 126 rfl
theorem tw127 {Z a0} (hw : HW a0 Z) : (Jvm.Cond.code M15 jdk_38_method_20_code (2 : Nat) (Option.some (Jvm.ClassFile.FieldType.object "java/lang/Object"))).before a0 Z = true := gw hw 127 rfl
theorem tw128 {Z a0} (hw : HW a0 Z) : (Jvm.Cond.methodLink aL (118 : Nat) M13).before a0 Z = true := gw hw 128 rfl
theorem tw129 {Z a0} (hw : HW a0 Z) : (Jvm.Cond.static M13).before a0 Z = true := gw hw 129 rfl
theorem tw130 {Z a0} (hw : HW a0 Z) : (Jvm.Cond.initialized "java/util/Objects").before a0 Z = true := gw hw 130 rfl
theorem tw131 {Z a0} (hw : HW a0 Z) : (Jvm.Cond.code M13 jdk_31_method_17_code (2 : Nat) (Option.some Jvm.ClassFile.FieldType.int)).before a0 Z = true := gw hw 131 rfl
theorem tw132 {Z a0} (hw : HW a0 Z) : (Jvm.Cond.methodLink "java/util/Objects" (105 : Nat) M12).before a0 Z = true := gw hw 132 rfl
theorem tw133 {Z a0} (hw : HW a0 Z) : (Jvm.Cond.static M12).before a0 Z = true := gw hw 133 rfl
theorem tw134 {Z a0} (hw : HW a0 Z) : (Jvm.Cond.initialized "jdk/internal/util/Preconditions").before a0 Z = true := gw hw 134 rfl
theorem tw135 {Z a0} (hw : HW a0 Z) : (Jvm.Cond.code M12 jdk_41_method_11_code (3 : Nat) (Option.some Jvm.ClassFile.FieldType.int)).before a0 Z = true := gw hw 135 rfl
theorem tw136 {Z a0} (hw : HW a0 Z) : (Jvm.Cond.methodLink aL (123 : Nat) M14).before a0 Z = true := gw hw 136 rfl
theorem tw137 {Z a0} (hw : HW a0 Z) : (Jvm.Cond.declares M14).before a0 Z = true := gw hw 137 rfl
theorem tw138 {Z a0} (hw : HW a0 Z) : (Jvm.Cond.instanceMethod M14).before a0 Z = true := gw hw 138 rfl
theorem tw139 {Z a0} (hw : HW a0 Z) : (Jvm.Cond.selects aL M14 M14).before a0 Z = true := gw hw 139 rfl
theorem tw140 {Z a0} (hw : HW a0 Z) : (Jvm.Cond.code M14 jdk_38_method_18_code (2 : Nat) (Option.some (Jvm.ClassFile.FieldType.object "java/lang/Object"))).before a0 Z = true := gw hw 140 rfl
theorem tw141 {Z a0} (hw : HW a0 Z) : (Jvm.Cond.classLink cF (50 : Nat) iN).before a0 Z = true := gw hw 141 rfl
theorem tw143 {Z a0} (hw : HW a0 Z) : (Jvm.Cond.methodLink cF (78 : Nat) M11).before a0 Z = true := gw hw 143 rfl
theorem tw144 {Z a0} (hw : HW a0 Z) : (Jvm.Cond.declares M11).before a0 Z = true := gw hw 144 rfl
theorem tw145 {Z a0} (hw : HW a0 Z) : (Jvm.Cond.instanceMethod M11).before a0 Z = true := gw hw 145 rfl
theorem tw146 {Z a0} (hw : HW a0 Z) : (Jvm.Cond.selects iN M11 M11).before a0 Z = true := gw hw 146 rfl
theorem tw147 {Z a0} (hw : HW a0 Z) : (Jvm.Cond.code M11 jdk_33_method_27_code (1 : Nat) (Option.some Jvm.ClassFile.FieldType.int)).before a0 Z = true := gw hw 147 rfl
theorem tw148 {Z a0} (hw : HW a0 Z) : (Jvm.Cond.fieldLink iN (205 : Nat) iN "value" "I").before a0 Z = true := gw hw 148 rfl
theorem tw150 {Z a0} (hw : HW a0 Z) : (Jvm.Cond.methodLink cF (100 : Nat) M20).before a0 Z = true := gw hw 150 rfl
theorem tw151 {Z a0} (hw : HW a0 Z) : (Jvm.Cond.instanceMethod M20).before a0 Z = true := gw hw 151 rfl
theorem tw152 {Z a0} (hw : HW a0 Z) : (Jvm.Cond.privateMethod M20).before a0 Z = true := gw hw 152 rfl
theorem tw153 {Z a0} (hw : HW a0 Z) : (Jvm.Cond.code M20 prog_37_method_12_code (2 : Nat) (Option.some Jvm.ClassFile.FieldType.double)).before a0 Z = true := gw hw 153 rfl
theorem own_b0 : B53 (0 : Int64) := ⟨by decide, by decide⟩
theorem own_dc0 : FP.dconst0 = FP.l2d (0 : Int64) := by rw [l2d_zero]; rfl
theorem own_fin_le (q : Int64) : ¬ (0 : Int32) < cmpValue (FP.dcmp (FP.l2d q &&& 0x7fffffffffffffff) (9218868437227405311 : UInt64)) .g := by
  have h : Jvm.Free.Fl.relLe (FP.dcmp (FP.l2d q &&& 0x7fffffffffffffff) (9218868437227405311 : UInt64)) = true := (Jvm.Free.Fl.le_max_iff (nn_w rfl)).mpr (Jvm.Free.Fl.l2d_fin q)
  rcases Jvm.Free.Fl.relLe_iff.mp h with e | e <;> rw [e] <;> decide
theorem own_clone {p : Program} {l : Launch} {e : Env} {R : Room} {s : State} {m : MethodId} {args : Array Value} {below : List Frame} {meth : Method} {c : Code} {T : State} {locs : List Loc} {cells slots : Nat} {Z : State} {h : Heap} {a : Addr} {ty : FieldType} {a0 : Array Value}
    (X : Stand p l e R s m args below meth c T locs cells slots) (hx : p.tables.exec = Jvm.exec) (hZ : Z.Warmed39 s.vm) {own ad : String} {index : Nat} (hown : s.vm.findClass own = some m.cls)
    (w1 : (Cond.methodLink own index ⟨ad, "clone", "()Ljava/lang/Object;"⟩).before a0 Z = true) (w2 : (Cond.sameMethod ad "java/lang/Object" "clone" "()Ljava/lang/Object;").before a0 Z = true) (w3 : (Cond.native ⟨"java/lang/Object", "clone", "()Ljava/lang/Object;"⟩).before a0 Z = true)
    (w4 : (Cond.instanceMethod ⟨"java/lang/Object", "clone", "()Ljava/lang/Object;"⟩).before a0 Z = true) (w5 : (Cond.selects ad ⟨ad, "clone", "()Ljava/lang/Object;"⟩ ⟨"java/lang/Object", "clone", "()Ljava/lang/Object;"⟩).before a0 Z = true) (w6 : (Cond.castable ad "java/lang/Cloneable").before a0 Z = true)
    (eT : T.heap = h) {k : ClassId} {z : Int32} {vs : List Value} {dv : Value} (F : Arv Z h a k ty z vs dv) (E : Exa Z h a ad) {g : JFrame} (hg : g.method = m) (hsize : g.locals.size = c.maxLocals) {rest : List Value} (hst : g.stack = .ref a :: rest) (hd : decode c.code g.pc = .ok (.invokevirtual index, 3))
    (hf : 1 ≤ R.frames) {W cap : Nat} (hW : 2 * g.monitorRoom + (rest.map fun v => v.category).sum ≤ W) (hl : W + 14 ≤ R.locals) (hcap : z.toNatClampNeg ≤ cap) (hc : cells + 1 ≤ R.cells) (hsl : slots + cap ≤ R.slots) :
    ∃ T' h', Stand p l e R s m args below meth c T' locs (cells + 1) (slots + cap) ∧ T'.heap = h' ∧ Ext h h' ∧ Arv Z h' h.size k ty z vs dv ∧ Exa Z h' h.size ad ∧
      ∀ target, Steps p.tables e below (T'.setTop { g with pc := g.pc + 3, stack := .ref h.size :: rest }) target → Steps p.tables e below (T.setTop g) target := by
  obtain ⟨cl, A, q1, S, q3, H, G⟩ := F
  have FC : FitC Z cl := fitC_of A fun i hi v hv => by rw [H i hi] at hv; cases hv; exact G i hi
  obtain ⟨T', h', X', e', ex, A', E', st⟩ := cloneA X hx hZ hown w1 w2 w3 w4 w5 w6 eT A E FC hg hsize hst hd hf hW hl (by rw [S]; exact hcap) hc hsl
  exact ⟨T', h', X', e', ex, ⟨cloneOf cl, A', q1, S, q3, H, G⟩, E', st⟩
theorem own_b32 (x : Int32) : B53 x.toInt64 := by
  have e : x.toInt64.toInt = x.toInt := Int32.toInt_toInt64 x
  have h1 := x.toInt_lt
  have h2 := x.le_toInt
  exact ⟨by rw [e]; omega, by rw [e]; omega⟩
theorem own_r32 (x : Int32) : -2147483648 ≤ x.toInt64.toInt ∧ x.toInt64.toInt ≤ 2147483648 := by
  have e : x.toInt64.toInt = x.toInt := Int32.toInt_toInt64 x
  have h1 := x.toInt_lt
  have h2 := x.le_toInt
  rw [e]; omega
theorem own_step {A : Int64} {D : Int32} {n : Int} (hA : -n ≤ A.toInt ∧ A.toInt ≤ n) (hn : n ≤ 4294967296) (hD : 0 ≤ D.toInt ∧ D.toInt ≤ 7) :
    (-(n + 7) ≤ (A + D.toInt64).toInt ∧ (A + D.toInt64).toInt ≤ n + 7) ∧ ¬ (A + D.toInt64 < A) ∧ (A < A + D.toInt64 ↔ ¬ D = 0) ∧ B53 (A + D.toInt64) := by
  have e : D.toInt64.toInt = D.toInt := Int32.toInt_toInt64 D
  have s : (A + D.toInt64).toInt = A.toInt + D.toInt := by rw [add64 ⟨by omega, by omega⟩ (own_b32 D), e]
  have z0 : (0 : Int32).toInt = 0 := rfl
  have z : D = 0 ↔ D.toInt = 0 := by rw [← z0]; exact Int32.toInt_inj.symm
  have b : B53 (A + D.toInt64) := ⟨by rw [s]; omega, by rw [s]; omega⟩
  rw [Int64.lt_iff_toInt_lt, Int64.lt_iff_toInt_lt, z, s]
  exact ⟨⟨by omega, by omega⟩, by omega, by omega, b⟩
theorem own_m3 (x : Int32) : 0 ≤ (x &&& (3 : Int32)).toInt ∧ (x &&& (3 : Int32)).toInt ≤ 7 := by
  have m := c_mask x (3 : Int32) 2 (by decide) (by decide)
  have pw : ((2 ^ 2 : Nat) : Int) = 4 := rfl
  rw [pw] at m
  omega
theorem own_m7 (x : Int32) : 0 ≤ (x &&& (7 : Int32)).toInt ∧ (x &&& (7 : Int32)).toInt ≤ 7 := by
  have m := c_mask x (7 : Int32) 3 (by decide) (by decide)
  have pw : ((2 ^ 3 : Nat) : Int) = 8 := rfl
  rw [pw] at m
  omega
theorem own_nn {D : Int32} (h : 0 ≤ D.toInt) : ¬ D.toInt64 < (0 : Int64) := by
  have e : D.toInt64.toInt = D.toInt := Int32.toInt_toInt64 D
  have z0 : (0 : Int64).toInt = 0 := rfl
  rw [Int64.lt_iff_toInt_lt, z0, e]; omega
theorem own_v31 (x : Int32) : ¬ (x &&& (2147483647 : Int32)).toInt64 < (0 : Int64) := by
  apply own_nn
  have m := c_mask x (2147483647 : Int32) 31 (by decide) (by decide)
  have pw : ((2 ^ 31 : Nat) : Int) = 2147483648 := rfl
  rw [pw] at m
  omega
theorem own_v255 (x : Int32) : ¬ (x &&& (255 : Int32)).toInt64 < (0 : Int64) := by
  apply own_nn
  have m := c_mask x (255 : Int32) 8 (by decide) (by decide)
  have pw : ((2 ^ 8 : Nat) : Int) = 256 := rfl
  rw [pw] at m
  omega
theorem own_r4 (x : Int32) : (x &&& (3 : Int32)) = 0 ∨ (x &&& (3 : Int32)) = 1 ∨ (x &&& (3 : Int32)) = 2 ∨ (x &&& (3 : Int32)) = 3 := by
  have m := c_mask x (3 : Int32) 2 (by decide) (by decide)
  have pw : ((2 ^ 2 : Nat) : Int) = 4 := rfl
  rw [pw] at m
  generalize (x &&& (3 : Int32)) = u at *
  have k : u.toInt = 0 ∨ u.toInt = 1 ∨ u.toInt = 2 ∨ u.toInt = 3 := by omega
  rcases k with k | k | k | k
  · exact Or.inl (Int32.toInt_inj.mp k)
  · exact Or.inr (Or.inl (Int32.toInt_inj.mp k))
  · exact Or.inr (Or.inr (Or.inl (Int32.toInt_inj.mp k)))
  · exact Or.inr (Or.inr (Or.inr (Int32.toInt_inj.mp k)))
theorem own_size {n : Nat} {k : Int32} {m : Nat} (h : n < 2 ^ 31) (e : n.toInt32 = k) (hm : k.toInt = m) : n = m := by
  have q := len_toInt h
  rw [e, hm] at q; omega
theorem own_getD {xs : Array Value} {k : Nat} {v : Value} (h : xs[k]? = some v) : xs.toList.getD k .null = v := by
  rw [List.getD_eq_getElem?_getD, Array.getElem?_toList, h]; rfl
theorem own_arvL {s : State} {a : Addr} {cl : Cell} {ty : FieldType} (hf : Fit s) (A : Arr s s.heap a cl ty) (hsz : cl.slots.size = 256) : Arv s s.heap a cl.cls ty (256 : Int32) cl.slots.toList .null := by
  refine ⟨cl, A, rfl, by rw [hsz]; rfl, by decide, fun k hk => ?_, fun i hi => ?_⟩
  · rw [own_getD (Array.getElem?_eq_getElem hk)]; exact Array.getElem?_eq_getElem hk
  · rw [own_getD (Array.getElem?_eq_getElem hi)]
    have q := hf A.1 hi
    obtain ⟨hs, k, hk, comp, hkind⟩ := A.2.1
    have e : s.slotType? cl.cls cl.vm i = some ty := by
      cases hq : cl.vm <;> first | exact absurd hq (hs _) | simp [State.slotType?, hk, hkind]
    simpa [State.fitsSlot, e] using q
theorem own_eqV {args : Array Value} {s : State} {t u : Term} {k : Int32} {idx : List Nat} (hu : u.eval args s none idx s = some (.int k)) (h : (Cond.eq t u).value args s none s idx = some true) : t.eval args s none idx s = some (.int k) := by
  cases ht : t.eval args s none idx s with
  | none => simp [Cond.value, ht, hu] at h
  | some v => cases v <;> simp [Cond.value, ht, hu] at h ⊢; exact h
theorem own_cache {args : Array Value} {s : State} {C n d K : String} {a : Addr} {cl : Cell} {ty : FieldType} (ev : (Term.static C n d).eval args s none [] s = some (.ref a)) (A : Arr s s.heap a cl ty) (hsz : cl.slots.size = 256)
    (h : (Jvm.Cond.all (.static C n d) (.and (.exactly (.elem (.static C n d) (.index 0)) K) (.eq (.field (.elem (.static C n d) (.index 0)) K "value" "I") (.sub (.index 0) (.int 128))))).value args s none s [] = some true)
    {j k : Int32} (hk : j - 128 = k) (hj : ¬ (j < 0 ∨ (256 : Nat) ≤ j.toNatClampNeg)) : ∃ r, cl.slots.toList.getD j.toNatClampNeg .null = .ref r ∧ Exa s s.heap r K ∧ Fld s s.heap r K "value" "I" (.int k) := by
  have hi : j.toNatClampNeg < cl.slots.size := by rw [hsz]; exact Nat.lt_of_not_le fun q => hj (Or.inr q)
  obtain ⟨q, q2⟩ := and_e (Cond.all_elim ev (A.fin (Vm.Alike.refl _)) h j.toNatClampNeg hi)
  obtain ⟨r, er⟩ := exa_v q
  have g := (elem_in er (show (Term.static C n d).eval args s none [j.toNatClampNeg] s = some (.ref a) from ev) (idx_at (fun z => hj (Or.inl z))) A.1).2
  refine ⟨r, own_getD g, exa_at er q, Fld.start ?_⟩
  have u : (Term.sub (.index 0) (.int 128)).eval args s none [j.toNatClampNeg] s = some (.int (j - 128)) := Term.sub_int (idx_at (fun z => hj (Or.inl z))) (Term.int_eval 128)
  rw [hk] at u
  rw [← fld_at (C := K) (n := "value") (dd := "I") er]
  exact own_eqV u q2
theorem own_selp {y : MethodName} {s : State} {args : Array Value} {n : Nat} (hy : y.cls ≠ "java/lang/invoke/MethodHandle" ∧ y.cls ≠ "java/lang/invoke/VarHandle") (hi : (Cond.instantiable y.cls n).before args s = true) (hp : (Cond.privateMethod y).before args s = true) (hm : (Cond.instanceMethod y).before args s = true) : (Cond.selects y.cls y y).before args s = true := by
  obtain ⟨c, k, hc, hk, -, hf, -, -⟩ := Cond.instantiable_spec hi
  obtain ⟨mk, me, hn, hg, -, -⟩ := Cond.instanceMethod_spec hm
  have e1 : s.methodFound? y.cls y.name y.desc = some mk := State.methodFound?_of_named hn hy
  have e2 : mk.cls = c := Option.some.inj ((findClass_of_methodNamed hn).symm.trans hc)
  have e3 : selectMethod {} s.vm c mk = .method mk := selectMethod_private hg (Cond.privateMethod_at hp mk me hn hg)
  have e4 : k.isInterface = false := (Bool.or_eq_false_iff.mp hf).1
  simp only [Cond.before, Cond.holds, Cond.value, hc, e1, hn, e3, e2, hk]
  simp; exact e4

theorem d9_0 : decode cj_117_8 0 = .ok (.dload_n 0, 1) := by decide +kernel
theorem d9_1 : decode cj_117_8 1 = .ok (.invokestatic 38, 3) := by decide +kernel
theorem d9_4 : decode cj_117_8 4 = .ok (.ldc2_w 111, 3) := by decide +kernel
theorem d9_7 : decode cj_117_8 7 = .ok (.dcmp .g, 1) := by decide +kernel
theorem d9_8 : decode cj_117_8 8 = .ok (.ifCond .gt 7, 3) := by decide +kernel
theorem d9_11 : decode cj_117_8 11 = .ok (.iconst 1, 1) := by decide +kernel
theorem d9_12 : decode cj_117_8 12 = .ok (.goto 4, 3) := by decide +kernel
theorem d9_16 : decode cj_117_8 16 = .ok (.ireturn, 1) := by decide +kernel
theorem pn_9 : plainName "java/lang/Double" = true := by first | (simp [plainName, overriddenIn]; done) | decide +kernel
theorem pd__D_D : parseMethodDescriptor "(D)D" = some ⟨[.double], some .double⟩ := by decide +kernel
theorem ef9_D (m : MethodId) (x0 : UInt64) : entryFrame m #[(.double x0)] 2 = mkF m 0 #[.val (.double x0), .second] [] := by first | (simp [entryFrame, mkF, argsToLocals, Value.category]; done) | rfl
def QFin (Z : State) (q1 : Int64) (h0 : Heap) (n0 : Nat) (v : Option Value) (h : Heap) (L : List Loc) : Prop := v = some (.int (1 : Int32)) ∧ Fr n0 L ∧ h = h0
set_option maxRecDepth 65536 in
set_option maxHeartbeats 40000000 in
theorem rmFin (l : Launch) (Z : State) (a0 : Array Value) (hw : HW a0 Z) (ws : List Jvm.Cond) (q1 : Int64) (h0 : Heap) (n0 : Nat) (Z0 : n0 ≤ h0.size) :
    MetFree l M0 (head1 (Jvm.Cond.code M0 jdk_117_method_8_code 2 (some .boolean) :: ws) R1_0_0_13) (fun ar UU => ar = #[(dV q1)] ∧ Z.Warmed39 UU.vm ∧ UU.heap = h0) (fun _ _ _ _ _ => True) (fun _ UU oo UU' => ∃ vv LL, oo = .returned vv ∧ QFin Z q1 h0 n0 vv UU'.heap LL ∧ FrameEnd UU oo UU' LL R1_0_0_13.cells R1_0_0_13.slots) := by
 refine MetFree.of_bodySF (plainFor_of_name pn_9) hisR ?_
 intro p e s m args below meth c s₁ Bd hml0 hP hK
 obtain ⟨rfl, hZ, hh⟩ := hP
 have hx := Bd.exec
 have hby := Bd.bytes
 have hml : c.maxLocals = 2 := hml0
 have hown : s.vm.findClass "java/lang/Double" = some m.cls := findClass_of_methodNamed Bd.named
 have hnm := (name_of_methodNamed Bd.named Bd.method).1
 have X0 : Stand p l e R1_0_0_13 s m #[(dV q1)] below meth c s₁ [] 0 0 := Stand.of_body Bd
 have e0 : s₁.heap = h0 := by rw [← hh, Bd.state]; rfl
 have N0 := Fr.nil n0
 have KC0 : Keep h0 h0 [] := Keep.refl h0 []
 have pre0 : ∀ tgt, Steps p.tables e below (s₁.setTop (mkF m 0 #[.val (dV q1), .second] [])) tgt → Steps p.tables e below (s₁.setTop (entryFrame m #[(dV q1)] 2)) tgt := fun tgt kk => castTop (ef9_D m ((FP.l2d q1))) kk
 generalize hI : s₁.setTop (entryFrame m #[(dV q1)] 2) = I0 at pre0 ⊢
 obtain ⟨T1, X1, e1, st1⟩ := natS X0 hx hZ (a0 := a0) hown (tw77 hw) (tw78 hw) (tw79 hw) (tw80 hw) (by decide) e0 (W := 0) (fun hc => Jvm.Free.Fl.Abs.absD_pays (FP.l2d q1) hc (by decide) (by decide)) (g := (mkF m 1 #[.val (dV q1), .second] [(dV q1)])) rfl (by rw [hml]; rfl) (argsL := [(dV q1)]) (rest := []) (lenOf pd__D_D rfl) rfl (own_mr rfl) (hb hby d9_1) (by decide) (by decide) ⟨rfl, nn_w rfl⟩ rfl
 have hk2 : ¬ ((0 : Int32) < (cmpValue (FP.dcmp ((FP.l2d q1) &&& 0x7fffffffffffffff) (9218868437227405311 : UInt64)) .g)) := (own_fin_le q1)
 obtain ⟨fs, hr, hrun, hended, hW, hsame⟩ := X1.leave (v := some (.int (1 : Int32))) (fun h => by rw [Bd.returns] at h; cases h)
 refine ⟨_, _, pre0 _ ?_, hrun, hended, _, _, rfl, ?_, ⟨_, rfl⟩, hW, hsame.mono (by decide) (by decide)⟩
 ·skip
  refine XS.dloadN X0.here hx rfl (hb hby d9_0) rfl ?_
  refine st1 _ ?_
  refine X1.ldc2DoubleC hx hown (mvT hZ (tw81 hw)) (g := (mkF m 4 #[.val (dV q1), .second] [(.double ((FP.l2d q1) &&& 0x7fffffffffffffff))])) rfl (hb hby d9_4) _ ?_
  refine XS.dcmpS X1.here hx rfl (hb hby d9_7) rfl rfl ?_
  refine XS.ifNo X1.here hx rfl (hb hby d9_8) rfl (XT.i0_gt_f hk2) ?_
  refine XS.iconst X1.here hx rfl (hb hby d9_11) ?_
  refine XS.goto X1.here hx rfl (pc0 := 12) (pc' := 16) rfl (hb hby d9_12) (by decide) (by decide) ?_
  exact retN X1 hx (t := .boolean) Bd.returns (by simp) (hb hby d9_16) hr
 ·show QFin Z q1 h0 n0 _ T1.heap _
  rw [e1]
  exact ⟨rfl, N0, rfl⟩
theorem d5_0 : decode cj_22_1 0 = .ok (.aload_n 0, 1) := by decide +kernel
theorem d5_1 : decode cj_22_1 1 = .ok (.invokespecial 1, 3) := by decide +kernel
theorem d5_4 : decode cj_22_1 4 = .ok (.return_, 1) := by decide +kernel
theorem pn_5 : plainName "java/util/AbstractCollection" = true := by first | (simp [plainName, overriddenIn]; done) | decide +kernel
theorem ef5_R (m : MethodId) (x0 : Addr) : entryFrame m #[(.ref x0)] 1 = mkF m 0 #[.val (.ref x0)] [] := by first | (simp [entryFrame, mkF, argsToLocals, Value.category]; done) | rfl
def QABC (Z : State) (a : Addr) (h0 : Heap) (n0 : Nat) (v : Option Value) (h : Heap) (L : List Loc) : Prop := v = none ∧ Fr n0 L ∧ h = h0
set_option maxRecDepth 65536 in
set_option maxHeartbeats 40000000 in
theorem rmABC (l : Launch) (Z : State) (a0 : Array Value) (hw : HW a0 Z) (ws : List Jvm.Cond) (a : Addr) (h0 : Heap) (n0 : Nat) (Z0 : n0 ≤ h0.size) :
    MetFree l M1 (head1 (Jvm.Cond.code M1 jdk_22_method_1_code 1 none :: ws) R1_0_0_12) (fun ar UU => ar = #[(.ref a)] ∧ Z.Warmed39 UU.vm ∧ UU.heap = h0) (fun _ _ _ _ _ => True) (fun _ UU oo UU' => ∃ vv LL, oo = .returned vv ∧ QABC Z a h0 n0 vv UU'.heap LL ∧ FrameEnd UU oo UU' LL R1_0_0_12.cells R1_0_0_12.slots) := by
 refine MetFree.of_bodySF (plainFor_of_name pn_5) hisR ?_
 intro p e s m args below meth c s₁ Bd hml0 hP hK
 obtain ⟨rfl, hZ, hh⟩ := hP
 have hx := Bd.exec
 have hby := Bd.bytes
 have hml : c.maxLocals = 1 := hml0
 have hown : s.vm.findClass "java/util/AbstractCollection" = some m.cls := findClass_of_methodNamed Bd.named
 have hnm := (name_of_methodNamed Bd.named Bd.method).1
 have X0 : Stand p l e R1_0_0_12 s m #[(.ref a)] below meth c s₁ [] 0 0 := Stand.of_body Bd
 have e0 : s₁.heap = h0 := by rw [← hh, Bd.state]; rfl
 have N0 := Fr.nil n0
 have KC0 : Keep h0 h0 [] := Keep.refl h0 []
 have pre0 : ∀ tgt, Steps p.tables e below (s₁.setTop (mkF m 0 #[.val (.ref a)] [])) tgt → Steps p.tables e below (s₁.setTop (entryFrame m #[(.ref a)] 1)) tgt := fun tgt kk => castTop (ef5_R m (a)) kk
 generalize hI : s₁.setTop (entryFrame m #[(.ref a)] 1) = I0 at pre0 ⊢
 obtain ⟨T1, X1, e1, st1⟩ := initO X0 hx hZ hown (tw41 hw) (tw8 hw) (tw9 hw) e0 (g := (mkF m 1 #[.val (.ref a)] [(.ref a)])) rfl (by rw [hml]; rfl) rfl (hb hby d5_1) (by decide) (W := 0) (own_mr rfl) (by decide)
 obtain ⟨fs, hr, hrun, hended, hW, hsame⟩ := X1.leave (v := none) (fun _ => rfl)
 refine ⟨_, _, pre0 _ ?_, hrun, hended, _, _, rfl, ?_, ⟨_, rfl⟩, hW, hsame.mono (by decide) (by decide)⟩
 ·skip
  refine XS.aloadN X0.here hx rfl (hb hby d5_0) rfl rfl ?_
  refine st1 _ ?_
  exact X1.returnOut hx Bd.returns (hb hby d5_4) hr
 ·show QABC Z a h0 n0 _ T1.heap _
  rw [e1]
  exact ⟨rfl, N0, rfl⟩
theorem d4_0 : decode cj_39_1 0 = .ok (.aload_n 0, 1) := by decide +kernel
theorem d4_1 : decode cj_39_1 1 = .ok (.invokespecial 1, 3) := by decide +kernel
theorem d4_4 : decode cj_39_1 4 = .ok (.aload_n 0, 1) := by decide +kernel
theorem d4_5 : decode cj_39_1 5 = .ok (.iconst 0, 1) := by decide +kernel
theorem d4_6 : decode cj_39_1 6 = .ok (.putfield 7, 3) := by decide +kernel
theorem d4_9 : decode cj_39_1 9 = .ok (.return_, 1) := by decide +kernel
theorem pn_4 : plainName "java/util/AbstractList" = true := by first | (simp [plainName, overriddenIn]; done) | decide +kernel
theorem pd___V : parseMethodDescriptor "()V" = some ⟨[], none⟩ := by decide +kernel
theorem ef4_R (m : MethodId) (x0 : Addr) : entryFrame m #[(.ref x0)] 1 = mkF m 0 #[.val (.ref x0)] [] := by first | (simp [entryFrame, mkF, argsToLocals, Value.category]; done) | rfl
def QABL (Z : State) (a : Addr) (h0 : Heap) (n0 : Nat) (v : Option Value) (h : Heap) (L : List Loc) : Prop := v = none ∧ Fr n0 L ∧ Keep h0 h [a] ∧ Fld Z h a aB "modCount" "I" (.int (0 : Int32)) ∧ Fld Z h a aL "size" "I" (.int (0 : Int32)) ∧ Fld Z h a aL "elementData" lO .null
set_option maxRecDepth 65536 in
set_option maxHeartbeats 40000000 in
theorem rmABL (l : Launch) (Z : State) (a0 : Array Value) (hw : HW a0 Z) (ws : List Jvm.Cond) (a : Addr) (h0 : Heap) (n0 : Nat) (Z0 : n0 ≤ h0.size) (E_a : Exa Z h0 a aL) (F_m : Fld Z h0 a aB "modCount" "I" (.int (0 : Int32))) (F_s : Fld Z h0 a aL "size" "I" (.int (0 : Int32))) (F_e : Fld Z h0 a aL "elementData" lO .null) (g_a : n0 ≤ a) :
    MetFree l M2 (head1 (Jvm.Cond.code M2 jdk_39_method_1_code 1 none :: ws) R2_0_0_24) (fun ar UU => ar = #[(.ref a)] ∧ Z.Warmed39 UU.vm ∧ UU.heap = h0) (fun _ _ _ _ _ => True) (fun _ UU oo UU' => ∃ vv LL, oo = .returned vv ∧ QABL Z a h0 n0 vv UU'.heap LL ∧ FrameEnd UU oo UU' LL R2_0_0_24.cells R2_0_0_24.slots) := by
 refine MetFree.of_bodySF (plainFor_of_name pn_4) hisR ?_
 intro p e s m args below meth c s₁ Bd hml0 hP hK
 obtain ⟨rfl, hZ, hh⟩ := hP
 have hx := Bd.exec
 have hby := Bd.bytes
 have hml : c.maxLocals = 1 := hml0
 have hown : s.vm.findClass "java/util/AbstractList" = some m.cls := findClass_of_methodNamed Bd.named
 have hnm := (name_of_methodNamed Bd.named Bd.method).1
 have X0 : Stand p l e R2_0_0_24 s m #[(.ref a)] below meth c s₁ [] 0 0 := Stand.of_body Bd
 have e0 : s₁.heap = h0 := by rw [← hh, Bd.state]; rfl
 have N0 := Fr.nil n0
 have KC0 : Keep h0 h0 [a] := Keep.refl h0 [a]
 have pre0 : ∀ tgt, Steps p.tables e below (s₁.setTop (mkF m 0 #[.val (.ref a)] [])) tgt → Steps p.tables e below (s₁.setTop (entryFrame m #[(.ref a)] 1)) tgt := fun tgt kk => castTop (ef4_R m (a)) kk
 generalize hI : s₁.setTop (entryFrame m #[(.ref a)] 1) = I0 at pre0 ⊢
 obtain ⟨_, _, ⟨T1, L1, k1, n1⟩, -, X1, ⟨Lc1, hQ1, l1, y1, z1⟩, st1⟩ := X0.specialBack hx (y := M1) rfl hown (mvT hZ (tw35 hw)) (mvT hZ (tw36 hw)) (mvT hZ (tw40 hw)) (by decide) (backOf (W := 0) (rmABC l Z a0 hw [] a h0 n0 Z0) hZ (tw40 hw) (tw39 hw) (by decide) (by decide)) (g := (mkF m 1 #[.val (.ref a)] [(.ref a)])) rfl (by rw [hml]; rfl) (Steps.refl _) (a := a) (argsL := []) (rest := []) (lenOf pd___V rfl) rfl (own_mr rfl) (hb hby d4_1) (fun _ _ => ⟨rfl, e0, (by decide : 0 + 0 ≤ _), (by decide : 0 + 0 ≤ _)⟩)
 dsimp only [Pt.U, Pt.locs, Pt.cells, Pt.slots] at X1 l1 y1 z1 st1 hQ1
 rw [l1, y1, z1] at X1
 obtain ⟨rfl, N1q, hh1⟩ := hQ1
 have N1 := Fr.app N0 N1q
 obtain ⟨T2, h2, X2, e2, W2, st2⟩ := putF X1 hx hZ hown (host := "") (Or.inl (tw42 hw)) Via.refl hh1 F_m E_a (Or.inl (tw43 hw)) (tw24 hw) (ty := .int) (by decide) rfl rfl (g := (mkF m 6 #[.val (.ref a)] [(.int (0 : Int32)), (.ref a)])) rfl rfl (hb hby d4_6)
 have N2 := Fr.snoc X2 N1 g_a
 have Fq2 := F_m.same W2
 replace E_a := E_a.wr W2
 replace F_s := F_s.other W2 (Or.inr (slot_ne (Or.inl (tw57 hw)) (Or.inl (tw43 hw)) (by decide) (t := .int) (t' := .int) (by decide) (by decide)))
 replace F_e := F_e.other W2 (Or.inr (slot_ne (Or.inl (tw46 hw)) (Or.inl (tw43 hw)) (by decide) (t := (.array (.object "java/lang/Object"))) (t' := .int) (by decide) (by decide)))
 have Zs3 := Nat.le_trans Z0 (Keep.of_wr W2).1
 have KC3 := KC0.wr W2 (Or.inl (List.mem_of_getElem? (i := 0) rfl))
 obtain ⟨fs, hr, hrun, hended, hW, hsame⟩ := X2.leave (v := none) (fun _ => rfl)
 refine ⟨_, _, pre0 _ ?_, hrun, hended, _, _, rfl, ?_, ⟨_, rfl⟩, hW, hsame.mono (by decide) (by decide)⟩
 ·skip
  refine XS.aloadN X0.here hx rfl (hb hby d4_0) rfl rfl ?_
  refine st1.trans ?_
  refine XS.aloadN X1.here hx rfl (hb hby d4_4) rfl rfl ?_
  refine XS.iconst X1.here hx rfl (hb hby d4_5) ?_
  refine st2 _ ?_
  exact X2.returnOut hx Bd.returns (hb hby d4_9) hr
 ·show QABL Z a h0 n0 _ T2.heap _
  rw [e2]
  exact ⟨rfl, N2, KC3, Fq2, F_s, F_e⟩
theorem d3_0 : decode cj_38_2 0 = .ok (.aload_n 0, 1) := by decide +kernel
theorem d3_1 : decode cj_38_2 1 = .ok (.invokespecial 1, 3) := by decide +kernel
theorem d3_4 : decode cj_38_2 4 = .ok (.aload_n 0, 1) := by decide +kernel
theorem d3_5 : decode cj_38_2 5 = .ok (.getstatic 39, 3) := by decide +kernel
theorem d3_8 : decode cj_38_2 8 = .ok (.putfield 9, 3) := by decide +kernel
theorem d3_11 : decode cj_38_2 11 = .ok (.return_, 1) := by decide +kernel
theorem pn_3 : plainName "java/util/ArrayList" = true := by first | (simp [plainName, overriddenIn]; done) | decide +kernel
theorem ef3_R (m : MethodId) (x0 : Addr) : entryFrame m #[(.ref x0)] 1 = mkF m 0 #[.val (.ref x0)] [] := by first | (simp [entryFrame, mkF, argsToLocals, Value.category]; done) | rfl
def QAI (Z : State) (a : Addr) (aE : Addr) (h0 : Heap) (n0 : Nat) (v : Option Value) (h : Heap) (L : List Loc) : Prop := v = none ∧ Fr n0 L ∧ Keep h0 h [a] ∧ Fld Z h a aB "modCount" "I" (.int (0 : Int32)) ∧ Fld Z h a aL "size" "I" (.int (0 : Int32)) ∧ Fld Z h a aL "elementData" lO (.ref aE)
set_option maxRecDepth 65536 in
set_option maxHeartbeats 40000000 in
theorem rmAI (l : Launch) (Z : State) (a0 : Array Value) (hw : HW a0 Z) (ws : List Jvm.Cond) (a : Addr) (aE : Addr) (h0 : Heap) (n0 : Nat) (Z0 : n0 ≤ h0.size) (E_a : Exa Z h0 a aL) (F_m : Fld Z h0 a aB "modCount" "I" (.int (0 : Int32))) (F_s : Fld Z h0 a aL "size" "I" (.int (0 : Int32))) (F_e : Fld Z h0 a aL "elementData" lO .null) (S_D : Sta Z h0 aL "DEFAULTCAPACITY_EMPTY_ELEMENTDATA" lO (.ref aE)) (g_a : n0 ≤ a) :
    MetFree l M3 (head1 (Jvm.Cond.code M3 jdk_38_method_2_code 1 none :: ws) R3_0_0_36) (fun ar UU => ar = #[(.ref a)] ∧ Z.Warmed39 UU.vm ∧ UU.heap = h0) (fun _ _ _ _ _ => True) (fun _ UU oo UU' => ∃ vv LL, oo = .returned vv ∧ QAI Z a aE h0 n0 vv UU'.heap LL ∧ FrameEnd UU oo UU' LL R3_0_0_36.cells R3_0_0_36.slots) := by
 refine MetFree.of_bodySF (plainFor_of_name pn_3) hisR ?_
 intro p e s m args below meth c s₁ Bd hml0 hP hK
 obtain ⟨rfl, hZ, hh⟩ := hP
 have hx := Bd.exec
 have hby := Bd.bytes
 have hml : c.maxLocals = 1 := hml0
 have hown : s.vm.findClass "java/util/ArrayList" = some m.cls := findClass_of_methodNamed Bd.named
 have hnm := (name_of_methodNamed Bd.named Bd.method).1
 have X0 : Stand p l e R3_0_0_36 s m #[(.ref a)] below meth c s₁ [] 0 0 := Stand.of_body Bd
 have e0 : s₁.heap = h0 := by rw [← hh, Bd.state]; rfl
 have N0 := Fr.nil n0
 have KC0 : Keep h0 h0 [a] := Keep.refl h0 [a]
 have pre0 : ∀ tgt, Steps p.tables e below (s₁.setTop (mkF m 0 #[.val (.ref a)] [])) tgt → Steps p.tables e below (s₁.setTop (entryFrame m #[(.ref a)] 1)) tgt := fun tgt kk => castTop (ef3_R m (a)) kk
 generalize hI : s₁.setTop (entryFrame m #[(.ref a)] 1) = I0 at pre0 ⊢
 obtain ⟨_, _, ⟨T2, L2, k2, n2⟩, -, X2, ⟨Lc2, hQ2, l2, y2, z2⟩, st2⟩ := X0.specialBack hx (y := M2) rfl hown (mvT hZ (tw29 hw)) (mvT hZ (tw30 hw)) (mvT hZ (tw34 hw)) (by decide) (backOf (W := 0) (rmABL l Z a0 hw [] a h0 n0 Z0 E_a F_m F_s F_e g_a) hZ (tw34 hw) (tw33 hw) (by decide) (by decide)) (g := (mkF m 1 #[.val (.ref a)] [(.ref a)])) rfl (by rw [hml]; rfl) (Steps.refl _) (a := a) (argsL := []) (rest := []) (lenOf pd___V rfl) rfl (own_mr rfl) (hb hby d3_1) (fun _ _ => ⟨rfl, e0, (by decide : 0 + 0 ≤ _), (by decide : 0 + 0 ≤ _)⟩)
 dsimp only [Pt.U, Pt.locs, Pt.cells, Pt.slots] at X2 l2 y2 z2 st2 hQ2
 rw [l2, y2, z2] at X2
 obtain ⟨rfl, N2q, K2, P2_0, P2_1, P2_2⟩ := hQ2
 have N2 := Fr.app N0 N2q
 have pl2_a := own_plain_Exa E_a
 replace E_a := E_a.keep K2
 replace S_D := own_sta_keep S_D K2 (allS pl2_a all0)
 have Zs3 := Nat.le_trans Z0 K2.1
 have KC3 := KC0.trans K2 (allS (Or.inl (List.mem_of_getElem? (i := 0) rfl)) all0)
 obtain ⟨T4, X4, e4, st4⟩ := getS X2 hx hZ hown (host := "") (tw44 hw) Via.refl rfl S_D (g := (mkF m 5 #[.val (.ref a)] [(.ref a)])) rfl (hb hby d3_5)
 obtain ⟨T5, h5, X5, e5, W5, st5⟩ := putF X4 hx hZ hown (host := "") (Or.inl (tw45 hw)) Via.refl e4 P2_2 E_a (Or.inl (tw46 hw)) (tw24 hw) (ty := (.array (.object "java/lang/Object"))) (by decide) rfl rfl (g := (mkF m 8 #[.val (.ref a)] [(.ref aE), (.ref a)])) rfl rfl (hb hby d3_8)
 have N5 := Fr.snoc X5 N2 g_a
 have Fq5 := P2_2.same W5
 replace E_a := E_a.wr W5
 replace P2_0 := P2_0.other W5 (Or.inr (slot_ne (Or.inl (tw43 hw)) (Or.inl (tw46 hw)) (by decide) (t := .int) (t' := (.array (.object "java/lang/Object"))) (by decide) (by decide)))
 replace P2_1 := P2_1.other W5 (Or.inr (slot_ne (Or.inl (tw57 hw)) (Or.inl (tw46 hw)) (by decide) (t := .int) (t' := (.array (.object "java/lang/Object"))) (by decide) (by decide)))
 have Zs6 := Nat.le_trans Zs3 (Keep.of_wr W5).1
 have KC6 := KC3.wr W5 (Or.inl (List.mem_of_getElem? (i := 0) rfl))
 obtain ⟨fs, hr, hrun, hended, hW, hsame⟩ := X5.leave (v := none) (fun _ => rfl)
 refine ⟨_, _, pre0 _ ?_, hrun, hended, _, _, rfl, ?_, ⟨_, rfl⟩, hW, hsame.mono (by decide) (by decide)⟩
 ·skip
  refine XS.aloadN X0.here hx rfl (hb hby d3_0) rfl rfl ?_
  refine st2.trans ?_
  refine XS.aloadN X2.here hx rfl (hb hby d3_4) rfl rfl ?_
  refine st4 _ ?_
  refine st5 _ ?_
  exact X5.returnOut hx Bd.returns (hb hby d3_11) hr
 ·show QAI Z a aE h0 n0 _ T5.heap _
  rw [e5]
  exact ⟨rfl, N5, KC6, P2_0, P2_1, Fq5⟩
theorem d6_0 : decode cj_38_8 0 = .ok (.aload_n 0, 1) := by decide +kernel
theorem d6_1 : decode cj_38_8 1 = .ok (.getfield 48, 3) := by decide +kernel
theorem d6_4 : decode cj_38_8 4 = .ok (.ireturn, 1) := by decide +kernel
theorem pn_6 : plainName "java/util/ArrayList" = true := by first | (simp [plainName, overriddenIn]; done) | decide +kernel
theorem ef6_R (m : MethodId) (x0 : Addr) : entryFrame m #[(.ref x0)] 1 = mkF m 0 #[.val (.ref x0)] [] := by first | (simp [entryFrame, mkF, argsToLocals, Value.category]; done) | rfl
def QSz (Z : State) (a : Addr) (k : Int32) (h0 : Heap) (n0 : Nat) (v : Option Value) (h : Heap) (L : List Loc) : Prop := v = some (.int k) ∧ Fr n0 L ∧ h = h0
set_option maxRecDepth 65536 in
set_option maxHeartbeats 40000000 in
theorem rmSz (l : Launch) (Z : State) (a0 : Array Value) (hw : HW a0 Z) (ws : List Jvm.Cond) (a : Addr) (k : Int32) (h0 : Heap) (n0 : Nat) (Z0 : n0 ≤ h0.size) (F_s : Fld Z h0 a aL "size" "I" (.int k)) :
    MetFree l M4 (head1 (Jvm.Cond.code M4 jdk_38_method_8_code 1 (some .int) :: ws) R0_0_0_0) (fun ar UU => ar = #[(.ref a)] ∧ Z.Warmed39 UU.vm ∧ UU.heap = h0) (fun _ _ _ _ _ => True) (fun _ UU oo UU' => ∃ vv LL, oo = .returned vv ∧ QSz Z a k h0 n0 vv UU'.heap LL ∧ FrameEnd UU oo UU' LL R0_0_0_0.cells R0_0_0_0.slots) := by
 refine MetFree.of_bodySF (plainFor_of_name pn_6) hisR ?_
 intro p e s m args below meth c s₁ Bd hml0 hP hK
 obtain ⟨rfl, hZ, hh⟩ := hP
 have hx := Bd.exec
 have hby := Bd.bytes
 have hml : c.maxLocals = 1 := hml0
 have hown : s.vm.findClass "java/util/ArrayList" = some m.cls := findClass_of_methodNamed Bd.named
 have hnm := (name_of_methodNamed Bd.named Bd.method).1
 have X0 : Stand p l e R0_0_0_0 s m #[(.ref a)] below meth c s₁ [] 0 0 := Stand.of_body Bd
 have e0 : s₁.heap = h0 := by rw [← hh, Bd.state]; rfl
 have N0 := Fr.nil n0
 have KC0 : Keep h0 h0 [] := Keep.refl h0 []
 have pre0 : ∀ tgt, Steps p.tables e below (s₁.setTop (mkF m 0 #[.val (.ref a)] [])) tgt → Steps p.tables e below (s₁.setTop (entryFrame m #[(.ref a)] 1)) tgt := fun tgt kk => castTop (ef6_R m (a)) kk
 generalize hI : s₁.setTop (entryFrame m #[(.ref a)] 1) = I0 at pre0 ⊢
 obtain ⟨T1, X1, e1, st1⟩ := getF X0 hx hZ hown (host := "") (Or.inl (tw56 hw)) Via.refl e0 F_s (g := (mkF m 1 #[.val (.ref a)] [(.ref a)])) rfl rfl (hb hby d6_1)
 obtain ⟨fs, hr, hrun, hended, hW, hsame⟩ := X1.leave (v := some (.int k)) (fun h => by rw [Bd.returns] at h; cases h)
 refine ⟨_, _, pre0 _ ?_, hrun, hended, _, _, rfl, ?_, ⟨_, rfl⟩, hW, hsame.mono (by decide) (by decide)⟩
 ·skip
  refine XS.aloadN X0.here hx rfl (hb hby d6_0) rfl rfl ?_
  refine st1 _ ?_
  exact retI X1 hx Bd.returns (hb hby d6_4) hr
 ·show QSz Z a k h0 n0 _ T1.heap _
  rw [e1]
  exact ⟨rfl, N0, rfl⟩
theorem d16_0 : decode cj_29_65 0 = .ok (.iload_n 0, 1) := by decide +kernel
theorem d16_1 : decode cj_29_65 1 = .ok (.iload_n 1, 1) := by decide +kernel
theorem d16_2 : decode cj_29_65 2 = .ok (.if_icmp .lt 7, 3) := by decide +kernel
theorem d16_5 : decode cj_29_65 5 = .ok (.iload_n 0, 1) := by decide +kernel
theorem d16_6 : decode cj_29_65 6 = .ok (.goto 4, 3) := by decide +kernel
theorem d16_10 : decode cj_29_65 10 = .ok (.ireturn, 1) := by decide +kernel
theorem ef16_II (m : MethodId) (x0 : Int32) (x1 : Int32) : entryFrame m #[(.int x0), (.int x1)] 2 = mkF m 0 #[.val (.int x0), .val (.int x1)] [] := by first | (simp [entryFrame, mkF, argsToLocals, Value.category]; done) | rfl
def QMx (Z : State)  (h0 : Heap) (n0 : Nat) (v : Option Value) (h : Heap) (L : List Loc) : Prop := v = some (.int (10 : Int32)) ∧ Fr n0 L ∧ h = h0
set_option maxRecDepth 65536 in
set_option maxHeartbeats 40000000 in
theorem rmMx (l : Launch) (Z : State) (a0 : Array Value) (hw : HW a0 Z) (ws : List Jvm.Cond)  (h0 : Heap) (n0 : Nat) (Z0 : n0 ≤ h0.size) :
    MetFree l M5 (head1 (Jvm.Cond.code M5 jdk_29_method_65_code 2 (some .int) :: ws) R0_0_0_0) (fun ar UU => ar = #[(.int (10 : Int32)), (.int (1 : Int32))] ∧ Z.Warmed39 UU.vm ∧ UU.heap = h0) (fun _ _ _ _ _ => True) (fun _ UU oo UU' => ∃ vv LL, oo = .returned vv ∧ QMx Z  h0 n0 vv UU'.heap LL ∧ FrameEnd UU oo UU' LL R0_0_0_0.cells R0_0_0_0.slots) := by
 refine MetFree.of_bodySF (Jvm.Free.JP.mathPlain rfl (by decide +kernel)) hisR ?_
 intro p e s m args below meth c s₁ Bd hml0 hP hK
 obtain ⟨rfl, hZ, hh⟩ := hP
 have hx := Bd.exec
 have hby := Bd.bytes
 have hml : c.maxLocals = 2 := hml0
 have hown : s.vm.findClass "java/lang/Math" = some m.cls := findClass_of_methodNamed Bd.named
 have hnm := (name_of_methodNamed Bd.named Bd.method).1
 have X0 : Stand p l e R0_0_0_0 s m #[(.int (10 : Int32)), (.int (1 : Int32))] below meth c s₁ [] 0 0 := Stand.of_body Bd
 have e0 : s₁.heap = h0 := by rw [← hh, Bd.state]; rfl
 have N0 := Fr.nil n0
 have KC0 : Keep h0 h0 [] := Keep.refl h0 []
 have pre0 : ∀ tgt, Steps p.tables e below (s₁.setTop (mkF m 0 #[.val (.int (10 : Int32)), .val (.int (1 : Int32))] [])) tgt → Steps p.tables e below (s₁.setTop (entryFrame m #[(.int (10 : Int32)), (.int (1 : Int32))] 2)) tgt := fun tgt kk => castTop (ef16_II m ((10 : Int32)) ((1 : Int32))) kk
 generalize hI : s₁.setTop (entryFrame m #[(.int (10 : Int32)), (.int (1 : Int32))] 2) = I0 at pre0 ⊢
 obtain ⟨fs, hr, hrun, hended, hW, hsame⟩ := X0.leave (v := some (.int (10 : Int32))) (fun h => by rw [Bd.returns] at h; cases h)
 refine ⟨_, _, pre0 _ ?_, hrun, hended, _, _, rfl, ?_, ⟨_, rfl⟩, hW, hsame.mono (by decide) (by decide)⟩
 ·skip
  refine XS.iloadN X0.here hx rfl (hb hby d16_0) rfl ?_
  refine XS.iloadN X0.here hx rfl (hb hby d16_1) rfl ?_
  refine XS.icmpNo X0.here hx rfl (hb hby d16_2) rfl (XT.ii_lt_f (by decide)) ?_
  refine XS.iloadN X0.here hx rfl (hb hby d16_5) rfl ?_
  refine XS.goto X0.here hx rfl (pc0 := 6) (pc' := 10) rfl (hb hby d16_6) (by decide) (by decide) ?_
  exact retI X0 hx Bd.returns (hb hby d16_10) hr
 ·show QMx Z  h0 n0 _ s₁.heap _
  rw [e0]
  exact ⟨rfl, N0, rfl⟩
theorem d15_0 : decode cj_38_6 0 = .ok (.aload_n 0, 1) := by decide +kernel
theorem d15_1 : decode cj_38_6 1 = .ok (.getfield 9, 3) := by decide +kernel
theorem d15_4 : decode cj_38_6 4 = .ok (.arraylength, 1) := by decide +kernel
theorem d15_5 : decode cj_38_6 5 = .ok (.istore_n 2, 1) := by decide +kernel
theorem d15_6 : decode cj_38_6 6 = .ok (.iload_n 2, 1) := by decide +kernel
theorem d15_7 : decode cj_38_6 7 = .ok (.ifCond .gt 13, 3) := by decide +kernel
theorem d15_10 : decode cj_38_6 10 = .ok (.aload_n 0, 1) := by decide +kernel
theorem d15_11 : decode cj_38_6 11 = .ok (.getfield 9, 3) := by decide +kernel
theorem d15_14 : decode cj_38_6 14 = .ok (.getstatic 39, 3) := by decide +kernel
theorem d15_17 : decode cj_38_6 17 = .ok (.if_acmp .eq 28, 3) := by decide +kernel
theorem d15_45 : decode cj_38_6 45 = .ok (.aload_n 0, 1) := by decide +kernel
theorem d15_46 : decode cj_38_6 46 = .ok (.bipush 10, 2) := by decide +kernel
theorem d15_48 : decode cj_38_6 48 = .ok (.iload_n 1, 1) := by decide +kernel
theorem d15_49 : decode cj_38_6 49 = .ok (.invokestatic 79, 3) := by decide +kernel
theorem d15_52 : decode cj_38_6 52 = .ok (.anewarray 7, 3) := by decide +kernel
theorem d15_55 : decode cj_38_6 55 = .ok (.dup_x1, 1) := by decide +kernel
theorem d15_56 : decode cj_38_6 56 = .ok (.putfield 9, 3) := by decide +kernel
theorem d15_59 : decode cj_38_6 59 = .ok (.areturn, 1) := by decide +kernel
theorem pn_15 : plainName "java/util/ArrayList" = true := by first | (simp [plainName, overriddenIn]; done) | decide +kernel
theorem pd__II_I : parseMethodDescriptor "(II)I" = some ⟨[.int, .int], some .int⟩ := by decide +kernel
theorem ef15_RI (m : MethodId) (x0 : Addr) (x1 : Int32) : entryFrame m #[(.ref x0), (.int x1)] 4 = mkF m 0 #[.val (.ref x0), .val (.int x1), .unset, .unset] [] := by first | (simp [entryFrame, mkF, argsToLocals, Value.category]; done) | rfl
def QG1 (Z : State) (a : Addr) (aE : Addr) (kE : ClassId) (h0 : Heap) (n0 : Nat) (v : Option Value) (h : Heap) (L : List Loc) : Prop := ∃ (b : Addr) (b_k : ClassId), v = some (.ref b) ∧ Fr n0 L ∧ Keep h0 h [a] ∧ n0 ≤ b ∧ h0.size ≤ b ∧ Ovr Z b_k "java/lang/Object" ∧ Fld Z h a aB "modCount" "I" (.int (1 : Int32)) ∧ Fld Z h a aL "size" "I" (.int (0 : Int32)) ∧ Fld Z h a aL "elementData" lO (.ref b) ∧ Arv Z h b b_k (.object "java/lang/Object") (10 : Int32) [.null, .null, .null, .null, .null, .null, .null, .null, .null, .null] .null
set_option maxRecDepth 65536 in
set_option maxHeartbeats 40000000 in
theorem rmG1 (l : Launch) (Z : State) (a0 : Array Value) (hw : HW a0 Z) (ws : List Jvm.Cond) (a : Addr) (aE : Addr) (kE : ClassId) (h0 : Heap) (n0 : Nat) (Z0 : n0 ≤ h0.size) (E_a : Exa Z h0 a aL) (F_m : Fld Z h0 a aB "modCount" "I" (.int (1 : Int32))) (F_s : Fld Z h0 a aL "size" "I" (.int (0 : Int32))) (F_e : Fld Z h0 a aL "elementData" lO (.ref aE)) (S_D : Sta Z h0 aL "DEFAULTCAPACITY_EMPTY_ELEMENTDATA" lO (.ref aE)) (V_E : Arv Z h0 aE kE (.object "java/lang/Object") (0 : Int32) [] .null) (g_a : n0 ≤ a) (ne_aE_a : aE ≠ a) :
    MetFree l M6 (head1 (Jvm.Cond.code M6 jdk_38_method_6_code 4 (some (.array (.object "java/lang/Object"))) :: ws) R1_1_10_20) (fun ar UU => ar = #[(.ref a), (.int (1 : Int32))] ∧ Z.Warmed39 UU.vm ∧ UU.heap = h0) (fun _ _ _ _ _ => True) (fun _ UU oo UU' => ∃ vv LL, oo = .returned vv ∧ QG1 Z a aE kE h0 n0 vv UU'.heap LL ∧ FrameEnd UU oo UU' LL R1_1_10_20.cells R1_1_10_20.slots) := by
 refine MetFree.of_bodySF (plainFor_of_name pn_15) hisR ?_
 intro p e s m args below meth c s₁ Bd hml0 hP hK
 obtain ⟨rfl, hZ, hh⟩ := hP
 have hx := Bd.exec
 have hby := Bd.bytes
 have hml : c.maxLocals = 4 := hml0
 have hown : s.vm.findClass "java/util/ArrayList" = some m.cls := findClass_of_methodNamed Bd.named
 have hnm := (name_of_methodNamed Bd.named Bd.method).1
 have X0 : Stand p l e R1_1_10_20 s m #[(.ref a), (.int (1 : Int32))] below meth c s₁ [] 0 0 := Stand.of_body Bd
 have e0 : s₁.heap = h0 := by rw [← hh, Bd.state]; rfl
 have N0 := Fr.nil n0
 have KC0 : Keep h0 h0 [a] := Keep.refl h0 [a]
 have pre0 : ∀ tgt, Steps p.tables e below (s₁.setTop (mkF m 0 #[.val (.ref a), .val (.int (1 : Int32)), .unset, .unset] [])) tgt → Steps p.tables e below (s₁.setTop (entryFrame m #[(.ref a), (.int (1 : Int32))] 4)) tgt := fun tgt kk => castTop (ef15_RI m (a) ((1 : Int32))) kk
 generalize hI : s₁.setTop (entryFrame m #[(.ref a), (.int (1 : Int32))] 4) = I0 at pre0 ⊢
 obtain ⟨T1, X1, e1, st1⟩ := getF X0 hx hZ hown (host := "") (Or.inl (tw45 hw)) Via.refl e0 F_e (g := (mkF m 1 #[.val (.ref a), .val (.int (1 : Int32)), .unset, .unset] [(.ref a)])) rfl rfl (hb hby d15_1)
 obtain ⟨cl2, Ar2, aq2, aS2, aN2, aH2, aG2⟩ := id V_E
 obtain ⟨T3, X3, e3, st3⟩ := getF X1 hx hZ hown (host := "") (Or.inl (tw45 hw)) Via.refl e1 F_e (g := (mkF m 11 #[.val (.ref a), .val (.int (1 : Int32)), .val (.int (0 : Int32)), .unset] [(.ref a)])) rfl rfl (hb hby d15_11)
 obtain ⟨T4, X4, e4, st4⟩ := getS X3 hx hZ hown (host := "") (tw44 hw) Via.refl e3 S_D (g := (mkF m 14 #[.val (.ref a), .val (.int (1 : Int32)), .val (.int (0 : Int32)), .unset] [(.ref aE)])) rfl (hb hby d15_14)
 obtain ⟨_, _, ⟨T5, L5, k5, n5⟩, -, X5, ⟨Lc5, hQ5, l5, y5, z5⟩, st5⟩ := Jvm.LawKit.callS X4 hx (y := M5) hown (mvT hZ (tw114 hw)) (mvT hZ (tw115 hw)) (mvT hZ (tw79 hw)) (mvT hZ (tw116 hw)) (by decide) (backOf (W := 1) (rmMx l Z a0 hw []  h0 n0 Z0) hZ (tw116 hw) (tw79 hw) (by decide) (by decide)) (g := (mkF m 49 #[.val (.ref a), .val (.int (1 : Int32)), .val (.int (0 : Int32)), .unset] [(.int (1 : Int32)), (.int (10 : Int32)), (.ref a)])) rfl (by rw [hml]; rfl) (argsL := [(.int (10 : Int32)), (.int (1 : Int32))]) (rest := [(.ref a)]) (lenOf pd__II_I rfl) rfl (own_mr rfl) (hb hby d15_49) (fun _ _ => ⟨rfl, e4, (by decide : 0 + 0 ≤ _), (by decide : 0 + 0 ≤ _)⟩)
 dsimp only [Pt.U, Pt.locs, Pt.cells, Pt.slots] at X5 l5 y5 z5 st5 hQ5
 rw [l5, y5, z5] at X5
 obtain ⟨rfl, N5q, hh5⟩ := hQ5
 have N5 := Fr.app N0 N5q
 obtain ⟨T6, h6, k6, X6, e6, E6, A6, Ov6, st6⟩ := newR X5 hx hZ hown (tw117 hw) (tw118 hw) hh5 (g := (mkF m 52 #[.val (.ref a), .val (.int (1 : Int32)), .val (.int (0 : Int32)), .unset] [(.int (10 : Int32)), (.ref a)])) rfl (hb hby d15_52) rfl (by decide) (cap := 10) (by decide) (by decide) (by decide) (by decide)
 obtain ⟨b6, g6⟩ : ∃ z, z = h0.size := ⟨_, rfl⟩
 rw [← g6] at A6 st6
 have ne_a_b6 := own_ne E_a.lt g6
 have gn_b6 := own_le Z0 g6
 have sz_b6 := own_le KC0.1 g6
 replace E_a := E_a.ext E6
 replace F_m := F_m.ext E6
 replace F_s := F_s.ext E6
 replace F_e := F_e.ext E6
 have Zs7 := Nat.le_trans Z0 E6.1
 have KC7 := KC0.ext E6
 have V_b6 : Arv Z h6 b6 k6 (.object "java/lang/Object") (10 : Int32) [.null, .null, .null, .null, .null, .null, .null, .null, .null, .null] .null := (Arv.new A6 (by decide)).pad (pad_rep [] .null 10)
 obtain ⟨T8, h8, X8, e8, W8, st8⟩ := putF X6 hx hZ hown (host := "") (Or.inl (tw45 hw)) Via.refl e6 F_e E_a (Or.inl (tw46 hw)) (tw24 hw) (ty := (.array (.object "java/lang/Object"))) (by decide) rfl rfl (g := (mkF m 56 #[.val (.ref a), .val (.int (1 : Int32)), .val (.int (0 : Int32)), .unset] [(.ref b6), (.ref a), (.ref b6)])) rfl rfl (hb hby d15_56)
 have N8 := Fr.snoc X8 N5 g_a
 have Fq8 := F_e.same W8
 replace E_a := E_a.wr W8
 replace F_m := F_m.other W8 (Or.inr (slot_ne (Or.inl (tw43 hw)) (Or.inl (tw46 hw)) (by decide) (t := .int) (t' := (.array (.object "java/lang/Object"))) (by decide) (by decide)))
 replace F_s := F_s.other W8 (Or.inr (slot_ne (Or.inl (tw57 hw)) (Or.inl (tw46 hw)) (by decide) (t := .int) (t' := (.array (.object "java/lang/Object"))) (by decide) (by decide)))
 replace V_b6 := V_b6.other W8 (Ne.symm ne_a_b6)
 have Zs9 := Nat.le_trans Zs7 (Keep.of_wr W8).1
 have KC9 := KC7.wr W8 (Or.inl (List.mem_of_getElem? (i := 0) rfl))
 obtain ⟨fs, hr, hrun, hended, hW, hsame⟩ := X8.leave (v := some (.ref b6)) (fun h => by rw [Bd.returns] at h; cases h)
 refine ⟨_, _, pre0 _ ?_, hrun, hended, _, _, rfl, ?_, ⟨_, rfl⟩, hW, hsame.mono (by decide) (by decide)⟩
 ·skip
  refine XS.aloadN X0.here hx rfl (hb hby d15_0) rfl rfl ?_
  refine st1 _ ?_
  refine X1.arraylength hx (by rw [e1]; exact Ar2.1) (State.isArrayOf_alike hZ.alike Ar2.2.1) (g := (mkF m 4 #[.val (.ref a), .val (.int (1 : Int32)), .unset, .unset] [(.ref aE)])) rfl rfl (hb hby d15_4) _ ?_
  rw [len_of aS2 aN2]
  refine XS.istoreN X1.here hx rfl (hb hby d15_5) rfl (l' := #[.val (.ref a), .val (.int (1 : Int32)), .val (.int (0 : Int32)), .unset]) rfl ?_
  refine XS.iloadN X1.here hx rfl (hb hby d15_6) rfl ?_
  refine XS.ifNo X1.here hx rfl (hb hby d15_7) rfl (XT.i0_gt_f (by decide)) ?_
  refine XS.aloadN X1.here hx rfl (hb hby d15_10) rfl rfl ?_
  refine st3 _ ?_
  refine st4 _ ?_
  refine XT.acmpYes X4.here hx rfl (pc0 := 17) (pc' := 45) rfl (hb hby d15_17) rfl rfl rfl (XT.aa_eq_t rfl) (by decide) (by decide) ?_
  refine XS.aloadN X4.here hx rfl (hb hby d15_45) rfl rfl ?_
  refine XS.bipush X4.here hx rfl (hb hby d15_46) ?_
  refine XS.iloadN X4.here hx rfl (hb hby d15_48) rfl ?_
  refine st5 _ ?_
  refine st6 _ ?_
  refine XS.dupX1 X6.here hx rfl (hb hby d15_55) rfl rfl rfl ?_
  refine st8 _ ?_
  exact retOut X8 hx Bd.returns rfl (Or.inr (Or.inr (Or.inr (Or.inr ⟨rfl, rfl, rfl⟩)))) (hb hby d15_59) hr
 ·show QG1 Z a aE kE h0 n0 _ T8.heap _
  rw [e8]
  exact ⟨b6, k6, rfl, N8, KC9, gn_b6, sz_b6, Ov6, F_m, F_s, Fq8, V_b6⟩
theorem d14_0 : decode cj_38_7 0 = .ok (.aload_n 0, 1) := by decide +kernel
theorem d14_1 : decode cj_38_7 1 = .ok (.aload_n 0, 1) := by decide +kernel
theorem d14_2 : decode cj_38_7 2 = .ok (.getfield 48, 3) := by decide +kernel
theorem d14_5 : decode cj_38_7 5 = .ok (.iconst 1, 1) := by decide +kernel
theorem d14_6 : decode cj_38_7 6 = .ok (.iadd, 1) := by decide +kernel
theorem d14_7 : decode cj_38_7 7 = .ok (.invokevirtual 69, 3) := by decide +kernel
theorem d14_10 : decode cj_38_7 10 = .ok (.areturn, 1) := by decide +kernel
theorem pn_14 : plainName "java/util/ArrayList" = true := by first | (simp [plainName, overriddenIn]; done) | decide +kernel
theorem pd__I__Ljava_lang_Object_ : parseMethodDescriptor "(I)[Ljava/lang/Object;" = some ⟨[.int], some (.array (.object "java/lang/Object"))⟩ := by decide +kernel
theorem ef14_R (m : MethodId) (x0 : Addr) : entryFrame m #[(.ref x0)] 1 = mkF m 0 #[.val (.ref x0)] [] := by first | (simp [entryFrame, mkF, argsToLocals, Value.category]; done) | rfl
def QG0 (Z : State) (a : Addr) (aE : Addr) (kE : ClassId) (h0 : Heap) (n0 : Nat) (v : Option Value) (h : Heap) (L : List Loc) : Prop := ∃ (b : Addr) (b_k : ClassId), v = some (.ref b) ∧ Fr n0 L ∧ Keep h0 h [a] ∧ n0 ≤ b ∧ h0.size ≤ b ∧ Ovr Z b_k "java/lang/Object" ∧ Fld Z h a aB "modCount" "I" (.int (1 : Int32)) ∧ Fld Z h a aL "size" "I" (.int (0 : Int32)) ∧ Fld Z h a aL "elementData" lO (.ref b) ∧ Arv Z h b b_k (.object "java/lang/Object") (10 : Int32) [.null, .null, .null, .null, .null, .null, .null, .null, .null, .null] .null
set_option maxRecDepth 65536 in
set_option maxHeartbeats 40000000 in
theorem rmG0 (l : Launch) (Z : State) (a0 : Array Value) (hw : HW a0 Z) (ws : List Jvm.Cond) (a : Addr) (aE : Addr) (kE : ClassId) (h0 : Heap) (n0 : Nat) (Z0 : n0 ≤ h0.size) (E_a : Exa Z h0 a aL) (F_m : Fld Z h0 a aB "modCount" "I" (.int (1 : Int32))) (F_s : Fld Z h0 a aL "size" "I" (.int (0 : Int32))) (F_e : Fld Z h0 a aL "elementData" lO (.ref aE)) (S_D : Sta Z h0 aL "DEFAULTCAPACITY_EMPTY_ELEMENTDATA" lO (.ref aE)) (V_E : Arv Z h0 aE kE (.object "java/lang/Object") (0 : Int32) [] .null) (g_a : n0 ≤ a) (ne_aE_a : aE ≠ a) :
    MetFree l M7 (head1 (Jvm.Cond.code M7 jdk_38_method_7_code 1 (some (.array (.object "java/lang/Object"))) :: ws) R2_1_10_40) (fun ar UU => ar = #[(.ref a)] ∧ Z.Warmed39 UU.vm ∧ UU.heap = h0) (fun _ _ _ _ _ => True) (fun _ UU oo UU' => ∃ vv LL, oo = .returned vv ∧ QG0 Z a aE kE h0 n0 vv UU'.heap LL ∧ FrameEnd UU oo UU' LL R2_1_10_40.cells R2_1_10_40.slots) := by
 refine MetFree.of_bodySF (plainFor_of_name pn_14) hisR ?_
 intro p e s m args below meth c s₁ Bd hml0 hP hK
 obtain ⟨rfl, hZ, hh⟩ := hP
 have hx := Bd.exec
 have hby := Bd.bytes
 have hml : c.maxLocals = 1 := hml0
 have hown : s.vm.findClass "java/util/ArrayList" = some m.cls := findClass_of_methodNamed Bd.named
 have hnm := (name_of_methodNamed Bd.named Bd.method).1
 have X0 : Stand p l e R2_1_10_40 s m #[(.ref a)] below meth c s₁ [] 0 0 := Stand.of_body Bd
 have e0 : s₁.heap = h0 := by rw [← hh, Bd.state]; rfl
 have N0 := Fr.nil n0
 have KC0 : Keep h0 h0 [a] := Keep.refl h0 [a]
 have pre0 : ∀ tgt, Steps p.tables e below (s₁.setTop (mkF m 0 #[.val (.ref a)] [])) tgt → Steps p.tables e below (s₁.setTop (entryFrame m #[(.ref a)] 1)) tgt := fun tgt kk => castTop (ef14_R m (a)) kk
 generalize hI : s₁.setTop (entryFrame m #[(.ref a)] 1) = I0 at pre0 ⊢
 obtain ⟨T1, X1, e1, st1⟩ := getF X0 hx hZ hown (host := "") (Or.inl (tw56 hw)) Via.refl e0 F_s (g := (mkF m 2 #[.val (.ref a)] [(.ref a), (.ref a)])) rfl rfl (hb hby d14_2)
 obtain ⟨cq3, q3, q3'⟩ := E_a.cell
 obtain ⟨_, _, ⟨T3, L3, k3, n3⟩, -, X3, ⟨Lc3, hQ3, l3, y3, z3⟩, st3⟩ := X1.privateBack hx (y := M6) hown (mvT hZ (tw109 hw)) (mvT hZ (tw110 hw)) (mvT hZ (tw112 hw)) (Cond.privateMethod_at (mvP hZ (tw111 hw) (args := #[]))) (mvT hZ (tw113 hw)) (by decide) (backOf (W := 0) (rmG1 l Z a0 hw [] a aE kE h0 n0 Z0 E_a F_m F_s F_e S_D V_E g_a ne_aE_a) hZ (tw113 hw) (tw25 hw) (by decide) (by decide)) (g := (mkF m 7 #[.val (.ref a)] [(.int (1 : Int32)), (.ref a)])) rfl (by rw [hml]; rfl) (Steps.refl _) (a := a) (by rw [e1]; exact q3) q3' (argsL := [(.int (1 : Int32))]) (rest := []) (lenOf pd__I__Ljava_lang_Object_ rfl) rfl (own_mr rfl) (hb hby d14_7) (fun _ _ => ⟨rfl, e1, (by decide : 0 + 1 ≤ _), (by decide : 0 + 10 ≤ _)⟩)
 dsimp only [Pt.U, Pt.locs, Pt.cells, Pt.slots] at X3 l3 y3 z3 st3 hQ3
 rw [l3, y3, z3] at X3
 obtain ⟨b3, b_k3, rfl, N3q, K3, gb3, sb3, Ov_b_k3, P3_0, P3_1, P3_2, P3_3⟩ := hQ3
 have N3 := Fr.app N0 N3q
 have pl6_a := own_plain_Exa E_a
 replace E_a := E_a.keep K3
 replace S_D := own_sta_keep S_D K3 (allS pl6_a all0)
 replace V_E := V_E.keep K3 (ninS ne_aE_a nin0)
 have Zs4 := Nat.le_trans Z0 K3.1
 have KC4 := KC0.trans K3 (allS (Or.inl (List.mem_of_getElem? (i := 0) rfl)) all0)
 have szb3 := Nat.le_trans KC0.1 sb3
 obtain ⟨fs, hr, hrun, hended, hW, hsame⟩ := X3.leave (v := some (.ref b3)) (fun h => by rw [Bd.returns] at h; cases h)
 refine ⟨_, _, pre0 _ ?_, hrun, hended, _, _, rfl, ?_, ⟨_, rfl⟩, hW, hsame.mono (by decide) (by decide)⟩
 ·skip
  refine XS.aloadN X0.here hx rfl (hb hby d14_0) rfl rfl ?_
  refine XS.aloadN X0.here hx rfl (hb hby d14_1) rfl rfl ?_
  refine st1 _ ?_
  refine XS.iconst X1.here hx rfl (hb hby d14_5) ?_
  refine XS.iadd X1.here hx rfl (hb hby d14_6) rfl ?_
  refine st3.trans ?_
  exact retOut X3 hx Bd.returns rfl (Or.inr (Or.inr (Or.inr (Or.inr ⟨rfl, rfl, rfl⟩)))) (hb hby d14_10) hr
 ·show QG0 Z a aE kE h0 n0 _ T3.heap _
  exact ⟨b3, b_k3, rfl, N3, KC4, gb3, szb3, Ov_b_k3, P3_0, P3_1, P3_2, P3_3⟩
theorem d13_0 : decode cj_38_24 0 = .ok (.iload_n 3, 1) := by decide +kernel
theorem d13_1 : decode cj_38_24 1 = .ok (.aload_n 2, 1) := by decide +kernel
theorem d13_2 : decode cj_38_24 2 = .ok (.arraylength, 1) := by decide +kernel
theorem d13_3 : decode cj_38_24 3 = .ok (.if_icmp .ne 8, 3) := by decide +kernel
theorem d13_6 : decode cj_38_24 6 = .ok (.aload_n 0, 1) := by decide +kernel
theorem d13_7 : decode cj_38_24 7 = .ok (.invokevirtual 129, 3) := by decide +kernel
theorem d13_10 : decode cj_38_24 10 = .ok (.astore_n 2, 1) := by decide +kernel
theorem d13_11 : decode cj_38_24 11 = .ok (.aload_n 2, 1) := by decide +kernel
theorem d13_12 : decode cj_38_24 12 = .ok (.iload_n 3, 1) := by decide +kernel
theorem d13_13 : decode cj_38_24 13 = .ok (.aload_n 1, 1) := by decide +kernel
theorem d13_14 : decode cj_38_24 14 = .ok (.aastore, 1) := by decide +kernel
theorem d13_15 : decode cj_38_24 15 = .ok (.aload_n 0, 1) := by decide +kernel
theorem d13_16 : decode cj_38_24 16 = .ok (.iload_n 3, 1) := by decide +kernel
theorem d13_17 : decode cj_38_24 17 = .ok (.iconst 1, 1) := by decide +kernel
theorem d13_18 : decode cj_38_24 18 = .ok (.iadd, 1) := by decide +kernel
theorem d13_19 : decode cj_38_24 19 = .ok (.putfield 48, 3) := by decide +kernel
theorem d13_22 : decode cj_38_24 22 = .ok (.return_, 1) := by decide +kernel
theorem pn_13 : plainName "java/util/ArrayList" = true := by first | (simp [plainName, overriddenIn]; done) | decide +kernel
theorem pd____Ljava_lang_Object_ : parseMethodDescriptor "()[Ljava/lang/Object;" = some ⟨[], some (.array (.object "java/lang/Object"))⟩ := by decide +kernel
theorem ef13_RRRI (m : MethodId) (x0 : Addr) (x1 : Addr) (x2 : Addr) (x3 : Int32) : entryFrame m #[(.ref x0), (.ref x1), (.ref x2), (.int x3)] 4 = mkF m 0 #[.val (.ref x0), .val (.ref x1), .val (.ref x2), .val (.int x3)] [] := by first | (simp [entryFrame, mkF, argsToLocals, Value.category]; done) | rfl
def QP0 (Z : State) (a : Addr) (aE : Addr) (kE : ClassId) (x : Addr) (h0 : Heap) (n0 : Nat) (v : Option Value) (h : Heap) (L : List Loc) : Prop := ∃ (b : Addr) (b_k : ClassId), v = none ∧ Fr n0 L ∧ Keep h0 h [a] ∧ n0 ≤ b ∧ h0.size ≤ b ∧ Ovr Z b_k "java/lang/Object" ∧ Fld Z h a aB "modCount" "I" (.int (1 : Int32)) ∧ Fld Z h a aL "size" "I" (.int (1 : Int32)) ∧ Fld Z h a aL "elementData" lO (.ref b) ∧ Arv Z h b b_k (.object "java/lang/Object") (10 : Int32) [(.ref x), .null, .null, .null, .null, .null, .null, .null, .null, .null] .null
set_option maxRecDepth 65536 in
set_option maxHeartbeats 40000000 in
theorem rmP0 (l : Launch) (Z : State) (a0 : Array Value) (hw : HW a0 Z) (ws : List Jvm.Cond) (a : Addr) (aE : Addr) (kE : ClassId) (x : Addr) (h0 : Heap) (n0 : Nat) (Z0 : n0 ≤ h0.size) (E_a : Exa Z h0 a aL) (F_m : Fld Z h0 a aB "modCount" "I" (.int (1 : Int32))) (F_s : Fld Z h0 a aL "size" "I" (.int (0 : Int32))) (F_e : Fld Z h0 a aL "elementData" lO (.ref aE)) (S_D : Sta Z h0 aL "DEFAULTCAPACITY_EMPTY_ELEMENTDATA" lO (.ref aE)) (V_E : Arv Z h0 aE kE (.object "java/lang/Object") (0 : Int32) [] .null) (g_a : n0 ≤ a) (ne_aE_a : aE ≠ a) (E_x : Exa Z h0 x iN) :
    MetFree l M8 (head1 (Jvm.Cond.code M8 jdk_38_method_24_code 4 none :: ws) R3_1_10_60) (fun ar UU => ar = #[(.ref a), (.ref x), (.ref aE), (.int (0 : Int32))] ∧ Z.Warmed39 UU.vm ∧ UU.heap = h0) (fun _ _ _ _ _ => True) (fun _ UU oo UU' => ∃ vv LL, oo = .returned vv ∧ QP0 Z a aE kE x h0 n0 vv UU'.heap LL ∧ FrameEnd UU oo UU' LL R3_1_10_60.cells R3_1_10_60.slots) := by
 refine MetFree.of_bodySF (plainFor_of_name pn_13) hisR ?_
 intro p e s m args below meth c s₁ Bd hml0 hP hK
 obtain ⟨rfl, hZ, hh⟩ := hP
 have hx := Bd.exec
 have hby := Bd.bytes
 have hml : c.maxLocals = 4 := hml0
 have hown : s.vm.findClass "java/util/ArrayList" = some m.cls := findClass_of_methodNamed Bd.named
 have hnm := (name_of_methodNamed Bd.named Bd.method).1
 have X0 : Stand p l e R3_1_10_60 s m #[(.ref a), (.ref x), (.ref aE), (.int (0 : Int32))] below meth c s₁ [] 0 0 := Stand.of_body Bd
 have e0 : s₁.heap = h0 := by rw [← hh, Bd.state]; rfl
 have N0 := Fr.nil n0
 have KC0 : Keep h0 h0 [a] := Keep.refl h0 [a]
 have pre0 : ∀ tgt, Steps p.tables e below (s₁.setTop (mkF m 0 #[.val (.ref a), .val (.ref x), .val (.ref aE), .val (.int (0 : Int32))] [])) tgt → Steps p.tables e below (s₁.setTop (entryFrame m #[(.ref a), (.ref x), (.ref aE), (.int (0 : Int32))] 4)) tgt := fun tgt kk => castTop (ef13_RRRI m (a) (x) (aE) ((0 : Int32))) kk
 generalize hI : s₁.setTop (entryFrame m #[(.ref a), (.ref x), (.ref aE), (.int (0 : Int32))] 4) = I0 at pre0 ⊢
 obtain ⟨cl1, Ar1, aq1, aS1, aN1, aH1, aG1⟩ := id V_E
 have lt2_0 := E_a.lt
 have lt2_1 := V_E.lt
 obtain ⟨cq3, q3, q3'⟩ := E_a.cell
 obtain ⟨_, _, ⟨T3, L3, k3, n3⟩, -, X3, ⟨Lc3, hQ3, l3, y3, z3⟩, st3⟩ := X0.privateBack hx (y := M7) hown (mvT hZ (tw104 hw)) (mvT hZ (tw105 hw)) (mvT hZ (tw107 hw)) (Cond.privateMethod_at (mvP hZ (tw106 hw) (args := #[]))) (mvT hZ (tw108 hw)) (by decide) (backOf (W := 0) (rmG0 l Z a0 hw [] a aE kE h0 n0 Z0 E_a F_m F_s F_e S_D V_E g_a ne_aE_a) hZ (tw108 hw) (tw25 hw) (by decide) (by decide)) (g := (mkF m 7 #[.val (.ref a), .val (.ref x), .val (.ref aE), .val (.int (0 : Int32))] [(.ref a)])) rfl (by rw [hml]; rfl) (Steps.refl _) (a := a) (by rw [e0]; exact q3) q3' (argsL := []) (rest := []) (lenOf pd____Ljava_lang_Object_ rfl) rfl (own_mr rfl) (hb hby d13_7) (fun _ _ => ⟨rfl, e0, (by decide : 0 + 1 ≤ _), (by decide : 0 + 10 ≤ _)⟩)
 dsimp only [Pt.U, Pt.locs, Pt.cells, Pt.slots] at X3 l3 y3 z3 st3 hQ3
 rw [l3, y3, z3] at X3
 obtain ⟨b3, b_k3, rfl, N3q, K3, gb3, sb3, Ov_b_k3, P3_0, P3_1, P3_2, P3_3⟩ := hQ3
 have N3 := Fr.app N0 N3q
 have pl6_a := own_plain_Exa E_a
 replace E_a := E_a.keep K3
 replace S_D := own_sta_keep S_D K3 (allS pl6_a all0)
 replace V_E := V_E.keep K3 (ninS ne_aE_a nin0)
 replace E_x := E_x.keep K3
 have Zs4 := Nat.le_trans Z0 K3.1
 have KC4 := KC0.trans K3 (allS (Or.inl (List.mem_of_getElem? (i := 0) rfl)) all0)
 have ne_a_b3 := own_ne2 lt2_0 sb3
 have ne_aE_b3 := own_ne2 lt2_1 sb3
 have szb3 := Nat.le_trans KC0.1 sb3
 obtain ⟨cl5, Ar5, aq5, aS5, aN5, aH5, aG5⟩ := id P3_3
 have hin6 : ¬ ((0 : Int32) < 0 ∨ cl5.slots.size ≤ ((0 : Int32)).toNatClampNeg) := inb_of aS5 ⟨by decide, by decide⟩
 obtain ⟨T6, h6, X6, e6, W6, st6⟩ := stR X3 hx hZ rfl Ar5 (j := (0 : Int32)) hin6 rfl (Sto.ofV Ar5 aq5 Ov_b_k3 (Ins.of_exa E_x (tw119 hw))) (g := (mkF m 14 #[.val (.ref a), .val (.ref x), .val (.ref b3), .val (.int (0 : Int32))] [(.ref x), (.int (0 : Int32)), (.ref b3)])) rfl rfl (hb hby d13_14)
 have N6 := Fr.snoc X6 N3 gb3
 have Vq6 : Arv Z h6 b3 b_k3 (.object "java/lang/Object") (10 : Int32) [(.ref x), .null, .null, .null, .null, .null, .null, .null, .null, .null] .null := Arv.set Ar5 aq5 aS5 aN5 aH5 aG5 rfl W6 0 rfl (Nat.le_of_ble_eq_true rfl)
 replace E_a := E_a.wr W6
 replace E_x := E_x.wr W6
 replace P3_0 := P3_0.other W6 (Or.inl ne_a_b3)
 replace P3_1 := P3_1.other W6 (Or.inl ne_a_b3)
 replace P3_2 := P3_2.other W6 (Or.inl ne_a_b3)
 have Zs7 := Nat.le_trans Zs4 (Keep.of_wr W6).1
 have KC7 := KC4.wr W6 (Or.inr szb3)
 obtain ⟨T8, h8, X8, e8, W8, st8⟩ := putF X6 hx hZ hown (host := "") (Or.inl (tw56 hw)) Via.refl e6 P3_1 E_a (Or.inl (tw57 hw)) (tw24 hw) (ty := .int) (by decide) rfl rfl (g := (mkF m 19 #[.val (.ref a), .val (.ref x), .val (.ref b3), .val (.int (0 : Int32))] [(.int (1 : Int32)), (.ref a)])) rfl rfl (hb hby d13_19)
 have N8 := Fr.snoc X8 N6 g_a
 have Fq8 := P3_1.same W8
 replace E_a := E_a.wr W8
 replace P3_0 := P3_0.other W8 (Or.inr (slot_ne (Or.inl (tw43 hw)) (Or.inl (tw57 hw)) (by decide) (t := .int) (t' := .int) (by decide) (by decide)))
 replace P3_2 := P3_2.other W8 (Or.inr (slot_ne (Or.inl (tw46 hw)) (Or.inl (tw57 hw)) (by decide) (t := (.array (.object "java/lang/Object"))) (t' := .int) (by decide) (by decide)))
 replace Vq6 := Vq6.other W8 (Ne.symm ne_a_b3)
 have Zs9 := Nat.le_trans Zs7 (Keep.of_wr W8).1
 have KC9 := KC7.wr W8 (Or.inl (List.mem_of_getElem? (i := 0) rfl))
 obtain ⟨fs, hr, hrun, hended, hW, hsame⟩ := X8.leave (v := none) (fun _ => rfl)
 refine ⟨_, _, pre0 _ ?_, hrun, hended, _, _, rfl, ?_, ⟨_, rfl⟩, hW, hsame.mono (by decide) (by decide)⟩
 ·skip
  refine XS.iloadN X0.here hx rfl (hb hby d13_0) rfl ?_
  refine XS.aloadN X0.here hx rfl (hb hby d13_1) rfl rfl ?_
  refine X0.arraylength hx (by rw [e0]; exact Ar1.1) (State.isArrayOf_alike hZ.alike Ar1.2.1) (g := (mkF m 2 #[.val (.ref a), .val (.ref x), .val (.ref aE), .val (.int (0 : Int32))] [(.ref aE), (.int (0 : Int32))])) rfl rfl (hb hby d13_2) _ ?_
  rw [len_of aS1 aN1]
  refine XS.icmpNo X0.here hx rfl (hb hby d13_3) rfl (XT.ii_ne_f (by decide)) ?_
  refine XS.aloadN X0.here hx rfl (hb hby d13_6) rfl rfl ?_
  refine st3.trans ?_
  refine XS.astoreN X3.here hx rfl (hb hby d13_10) rfl rfl (l' := #[.val (.ref a), .val (.ref x), .val (.ref b3), .val (.int (0 : Int32))]) rfl ?_
  refine XS.aloadN X3.here hx rfl (hb hby d13_11) rfl rfl ?_
  refine XS.iloadN X3.here hx rfl (hb hby d13_12) rfl ?_
  refine XS.aloadN X3.here hx rfl (hb hby d13_13) rfl rfl ?_
  refine st6 _ ?_
  refine XS.aloadN X6.here hx rfl (hb hby d13_15) rfl rfl ?_
  refine XS.iloadN X6.here hx rfl (hb hby d13_16) rfl ?_
  refine XS.iconst X6.here hx rfl (hb hby d13_17) ?_
  refine XS.iadd X6.here hx rfl (hb hby d13_18) rfl ?_
  refine st8 _ ?_
  exact X8.returnOut hx Bd.returns (hb hby d13_22) hr
 ·show QP0 Z a aE kE x h0 n0 _ T8.heap _
  rw [e8]
  exact ⟨b3, b_k3, rfl, N8, KC9, gb3, szb3, Ov_b_k3, P3_0, Fq8, P3_2, Vq6⟩
theorem d12_0 : decode cj_38_25 0 = .ok (.aload_n 0, 1) := by decide +kernel
theorem d12_1 : decode cj_38_25 1 = .ok (.dup, 1) := by decide +kernel
theorem d12_2 : decode cj_38_25 2 = .ok (.getfield 63, 3) := by decide +kernel
theorem d12_5 : decode cj_38_25 5 = .ok (.iconst 1, 1) := by decide +kernel
theorem d12_6 : decode cj_38_25 6 = .ok (.iadd, 1) := by decide +kernel
theorem d12_7 : decode cj_38_25 7 = .ok (.putfield 63, 3) := by decide +kernel
theorem d12_10 : decode cj_38_25 10 = .ok (.aload_n 0, 1) := by decide +kernel
theorem d12_11 : decode cj_38_25 11 = .ok (.aload_n 1, 1) := by decide +kernel
theorem d12_12 : decode cj_38_25 12 = .ok (.aload_n 0, 1) := by decide +kernel
theorem d12_13 : decode cj_38_25 13 = .ok (.getfield 9, 3) := by decide +kernel
theorem d12_16 : decode cj_38_25 16 = .ok (.aload_n 0, 1) := by decide +kernel
theorem d12_17 : decode cj_38_25 17 = .ok (.getfield 48, 3) := by decide +kernel
theorem d12_20 : decode cj_38_25 20 = .ok (.invokevirtual 131, 3) := by decide +kernel
theorem d12_23 : decode cj_38_25 23 = .ok (.iconst 1, 1) := by decide +kernel
theorem d12_24 : decode cj_38_25 24 = .ok (.ireturn, 1) := by decide +kernel
theorem pn_12 : plainName "java/util/ArrayList" = true := by first | (simp [plainName, overriddenIn]; done) | decide +kernel
theorem pd__Ljava_lang_Object__Ljava_lang_Object_I_V : parseMethodDescriptor "(Ljava/lang/Object;[Ljava/lang/Object;I)V" = some ⟨[(.object "java/lang/Object"), (.array (.object "java/lang/Object")), .int], none⟩ := by decide +kernel
theorem ef12_RR (m : MethodId) (x0 : Addr) (x1 : Addr) : entryFrame m #[(.ref x0), (.ref x1)] 2 = mkF m 0 #[.val (.ref x0), .val (.ref x1)] [] := by first | (simp [entryFrame, mkF, argsToLocals, Value.category]; done) | rfl
def QA0 (Z : State) (a : Addr) (aE : Addr) (kE : ClassId) (x : Addr) (h0 : Heap) (n0 : Nat) (v : Option Value) (h : Heap) (L : List Loc) : Prop := ∃ (b : Addr) (b_k : ClassId), v = some (.int (1 : Int32)) ∧ Fr n0 L ∧ Keep h0 h [a] ∧ n0 ≤ b ∧ h0.size ≤ b ∧ Ovr Z b_k "java/lang/Object" ∧ Fld Z h a aB "modCount" "I" (.int (1 : Int32)) ∧ Fld Z h a aL "size" "I" (.int (1 : Int32)) ∧ Fld Z h a aL "elementData" lO (.ref b) ∧ Arv Z h b b_k (.object "java/lang/Object") (10 : Int32) [(.ref x), .null, .null, .null, .null, .null, .null, .null, .null, .null] .null
set_option maxRecDepth 65536 in
set_option maxHeartbeats 40000000 in
theorem rmA0 (l : Launch) (Z : State) (a0 : Array Value) (hw : HW a0 Z) (ws : List Jvm.Cond) (a : Addr) (aE : Addr) (kE : ClassId) (x : Addr) (h0 : Heap) (n0 : Nat) (Z0 : n0 ≤ h0.size) (E_a : Exa Z h0 a aL) (F_m : Fld Z h0 a aB "modCount" "I" (.int (0 : Int32))) (F_s : Fld Z h0 a aL "size" "I" (.int (0 : Int32))) (F_e : Fld Z h0 a aL "elementData" lO (.ref aE)) (S_D : Sta Z h0 aL "DEFAULTCAPACITY_EMPTY_ELEMENTDATA" lO (.ref aE)) (V_E : Arv Z h0 aE kE (.object "java/lang/Object") (0 : Int32) [] .null) (g_a : n0 ≤ a) (ne_aE_a : aE ≠ a) (E_x : Exa Z h0 x iN) :
    MetFree l M9 (head1 (Jvm.Cond.code M9 jdk_38_method_25_code 2 (some .boolean) :: ws) R4_1_10_80) (fun ar UU => ar = #[(.ref a), (.ref x)] ∧ Z.Warmed39 UU.vm ∧ UU.heap = h0) (fun _ _ _ _ _ => True) (fun _ UU oo UU' => ∃ vv LL, oo = .returned vv ∧ QA0 Z a aE kE x h0 n0 vv UU'.heap LL ∧ FrameEnd UU oo UU' LL R4_1_10_80.cells R4_1_10_80.slots) := by
 refine MetFree.of_bodySF (plainFor_of_name pn_12) hisR ?_
 intro p e s m args below meth c s₁ Bd hml0 hP hK
 obtain ⟨rfl, hZ, hh⟩ := hP
 have hx := Bd.exec
 have hby := Bd.bytes
 have hml : c.maxLocals = 2 := hml0
 have hown : s.vm.findClass "java/util/ArrayList" = some m.cls := findClass_of_methodNamed Bd.named
 have hnm := (name_of_methodNamed Bd.named Bd.method).1
 have X0 : Stand p l e R4_1_10_80 s m #[(.ref a), (.ref x)] below meth c s₁ [] 0 0 := Stand.of_body Bd
 have e0 : s₁.heap = h0 := by rw [← hh, Bd.state]; rfl
 have N0 := Fr.nil n0
 have KC0 : Keep h0 h0 [a] := Keep.refl h0 [a]
 have pre0 : ∀ tgt, Steps p.tables e below (s₁.setTop (mkF m 0 #[.val (.ref a), .val (.ref x)] [])) tgt → Steps p.tables e below (s₁.setTop (entryFrame m #[(.ref a), (.ref x)] 2)) tgt := fun tgt kk => castTop (ef12_RR m (a) (x)) kk
 generalize hI : s₁.setTop (entryFrame m #[(.ref a), (.ref x)] 2) = I0 at pre0 ⊢
 obtain ⟨T1, X1, e1, st1⟩ := getF X0 hx hZ hown (host := "") (Or.inl (tw97 hw)) (Via.of (tw98 hw)) e0 F_m (g := (mkF m 2 #[.val (.ref a), .val (.ref x)] [(.ref a), (.ref a)])) rfl rfl (hb hby d12_2)
 obtain ⟨T2, h2, X2, e2, W2, st2⟩ := putF X1 hx hZ hown (host := "") (Or.inl (tw97 hw)) (Via.of (tw98 hw)) e1 F_m E_a (Or.inl (tw43 hw)) (tw24 hw) (ty := .int) (by decide) rfl rfl (g := (mkF m 7 #[.val (.ref a), .val (.ref x)] [(.int (1 : Int32)), (.ref a)])) rfl rfl (hb hby d12_7)
 have N2 := Fr.snoc X2 N0 g_a
 have Fq2 := F_m.same W2
 replace E_a := E_a.wr W2
 replace F_s := F_s.other W2 (Or.inr (slot_ne (Or.inl (tw57 hw)) (Or.inl (tw43 hw)) (by decide) (t := .int) (t' := .int) (by decide) (by decide)))
 replace F_e := F_e.other W2 (Or.inr (slot_ne (Or.inl (tw46 hw)) (Or.inl (tw43 hw)) (by decide) (t := (.array (.object "java/lang/Object"))) (t' := .int) (by decide) (by decide)))
 replace S_D := S_D.wr W2
 replace V_E := V_E.other W2 ne_aE_a
 replace E_x := E_x.wr W2
 have Zs3 := Nat.le_trans Z0 (Keep.of_wr W2).1
 have KC3 := KC0.wr W2 (Or.inl (List.mem_of_getElem? (i := 0) rfl))
 obtain ⟨T4, X4, e4, st4⟩ := getF X2 hx hZ hown (host := "") (Or.inl (tw45 hw)) Via.refl e2 F_e (g := (mkF m 13 #[.val (.ref a), .val (.ref x)] [(.ref a), (.ref x), (.ref a)])) rfl rfl (hb hby d12_13)
 obtain ⟨T5, X5, e5, st5⟩ := getF X4 hx hZ hown (host := "") (Or.inl (tw56 hw)) Via.refl e4 F_s (g := (mkF m 17 #[.val (.ref a), .val (.ref x)] [(.ref a), (.ref aE), (.ref x), (.ref a)])) rfl rfl (hb hby d12_17)
 obtain ⟨cq7, q7, q7'⟩ := E_a.cell
 obtain ⟨_, _, ⟨T7, L7, k7, n7⟩, -, X7, ⟨Lc7, hQ7, l7, y7, z7⟩, st7⟩ := X5.privateBack hx (y := M8) hown (mvT hZ (tw99 hw)) (mvT hZ (tw100 hw)) (mvT hZ (tw102 hw)) (Cond.privateMethod_at (mvP hZ (tw101 hw) (args := #[]))) (mvT hZ (tw103 hw)) (by decide) (backOf (W := 0) (rmP0 l Z a0 hw [] a aE kE x h2 n0 Zs3 E_a Fq2 F_s F_e S_D V_E g_a ne_aE_a E_x) hZ (tw103 hw) (tw25 hw) (by decide) (by decide)) (g := (mkF m 20 #[.val (.ref a), .val (.ref x)] [(.int (0 : Int32)), (.ref aE), (.ref x), (.ref a)])) rfl (by rw [hml]; rfl) (Steps.refl _) (a := a) (by rw [e5]; exact q7) q7' (argsL := [(.ref x), (.ref aE), (.int (0 : Int32))]) (rest := []) (lenOf pd__Ljava_lang_Object__Ljava_lang_Object_I_V rfl) rfl (own_mr rfl) (hb hby d12_20) (fun _ _ => ⟨rfl, e5, (by decide : 0 + 1 ≤ _), (by decide : 0 + 10 ≤ _)⟩)
 dsimp only [Pt.U, Pt.locs, Pt.cells, Pt.slots] at X7 l7 y7 z7 st7 hQ7
 rw [l7, y7, z7] at X7
 obtain ⟨b7, b_k7, rfl, N7q, K7, gb7, sb7, Ov_b_k7, P7_0, P7_1, P7_2, P7_3⟩ := hQ7
 have N7 := Fr.app N2 N7q
 have pl13_a := own_plain_Exa E_a
 replace E_a := E_a.keep K7
 replace S_D := own_sta_keep S_D K7 (allS pl13_a all0)
 replace V_E := V_E.keep K7 (ninS ne_aE_a nin0)
 replace E_x := E_x.keep K7
 have Zs8 := Nat.le_trans Zs3 K7.1
 have KC8 := KC3.trans K7 (allS (Or.inl (List.mem_of_getElem? (i := 0) rfl)) all0)
 have szb7 := Nat.le_trans KC3.1 sb7
 obtain ⟨fs, hr, hrun, hended, hW, hsame⟩ := X7.leave (v := some (.int (1 : Int32))) (fun h => by rw [Bd.returns] at h; cases h)
 refine ⟨_, _, pre0 _ ?_, hrun, hended, _, _, rfl, ?_, ⟨_, rfl⟩, hW, hsame.mono (by decide) (by decide)⟩
 ·skip
  refine XS.aloadN X0.here hx rfl (hb hby d12_0) rfl rfl ?_
  refine XS.dup X0.here hx rfl (hb hby d12_1) rfl rfl ?_
  refine st1 _ ?_
  refine XS.iconst X1.here hx rfl (hb hby d12_5) ?_
  refine XS.iadd X1.here hx rfl (hb hby d12_6) rfl ?_
  refine st2 _ ?_
  refine XS.aloadN X2.here hx rfl (hb hby d12_10) rfl rfl ?_
  refine XS.aloadN X2.here hx rfl (hb hby d12_11) rfl rfl ?_
  refine XS.aloadN X2.here hx rfl (hb hby d12_12) rfl rfl ?_
  refine st4 _ ?_
  refine XS.aloadN X4.here hx rfl (hb hby d12_16) rfl rfl ?_
  refine st5 _ ?_
  refine st7.trans ?_
  refine XS.iconst X7.here hx rfl (hb hby d12_23) ?_
  exact retN X7 hx (t := .boolean) Bd.returns (by simp) (hb hby d12_24) hr
 ·show QA0 Z a aE kE x h0 n0 _ T7.heap _
  exact ⟨b7, b_k7, rfl, N7, KC8, gb7, szb7, Ov_b_k7, P7_0, P7_1, P7_2, P7_3⟩
def QP1 (Z : State) (a : Addr) (b : Addr) (b_k : ClassId) (x : Addr) (x0 : Addr) (h0 : Heap) (n0 : Nat) (v : Option Value) (h : Heap) (L : List Loc) : Prop := v = none ∧ Fr n0 L ∧ Keep h0 h [a, b] ∧ Fld Z h a aB "modCount" "I" (.int (2 : Int32)) ∧ Fld Z h a aL "size" "I" (.int (2 : Int32)) ∧ Fld Z h a aL "elementData" lO (.ref b) ∧ Arv Z h b b_k (.object "java/lang/Object") (10 : Int32) [(.ref x0), (.ref x), .null, .null, .null, .null, .null, .null, .null, .null] .null
set_option maxRecDepth 65536 in
set_option maxHeartbeats 40000000 in
theorem rmP1 (l : Launch) (Z : State) (a0 : Array Value) (hw : HW a0 Z) (ws : List Jvm.Cond) (a : Addr) (b : Addr) (b_k : ClassId) (x : Addr) (x0 : Addr) (h0 : Heap) (n0 : Nat) (Z0 : n0 ≤ h0.size) (E_a : Exa Z h0 a aL) (F_m : Fld Z h0 a aB "modCount" "I" (.int (2 : Int32))) (F_s : Fld Z h0 a aL "size" "I" (.int (1 : Int32))) (F_e : Fld Z h0 a aL "elementData" lO (.ref b)) (V_b : Arv Z h0 b b_k (.object "java/lang/Object") (10 : Int32) [(.ref x0), .null, .null, .null, .null, .null, .null, .null, .null, .null] .null) (Ov_b_k : Ovr Z b_k "java/lang/Object") (g_a : n0 ≤ a) (g_b : n0 ≤ b) (ne_b_a : b ≠ a) (E_x : Exa Z h0 x iN) :
    MetFree l M8 (head1 (Jvm.Cond.code M8 jdk_38_method_24_code 4 none :: ws) R3_0_0_60) (fun ar UU => ar = #[(.ref a), (.ref x), (.ref b), (.int (1 : Int32))] ∧ Z.Warmed39 UU.vm ∧ UU.heap = h0) (fun _ _ _ _ _ => True) (fun _ UU oo UU' => ∃ vv LL, oo = .returned vv ∧ QP1 Z a b b_k x x0 h0 n0 vv UU'.heap LL ∧ FrameEnd UU oo UU' LL R3_0_0_60.cells R3_0_0_60.slots) := by
 refine MetFree.of_bodySF (plainFor_of_name pn_13) hisR ?_
 intro p e s m args below meth c s₁ Bd hml0 hP hK
 obtain ⟨rfl, hZ, hh⟩ := hP
 have hx := Bd.exec
 have hby := Bd.bytes
 have hml : c.maxLocals = 4 := hml0
 have hown : s.vm.findClass "java/util/ArrayList" = some m.cls := findClass_of_methodNamed Bd.named
 have hnm := (name_of_methodNamed Bd.named Bd.method).1
 have X0 : Stand p l e R3_0_0_60 s m #[(.ref a), (.ref x), (.ref b), (.int (1 : Int32))] below meth c s₁ [] 0 0 := Stand.of_body Bd
 have e0 : s₁.heap = h0 := by rw [← hh, Bd.state]; rfl
 have N0 := Fr.nil n0
 have KC0 : Keep h0 h0 [a, b] := Keep.refl h0 [a, b]
 have pre0 : ∀ tgt, Steps p.tables e below (s₁.setTop (mkF m 0 #[.val (.ref a), .val (.ref x), .val (.ref b), .val (.int (1 : Int32))] [])) tgt → Steps p.tables e below (s₁.setTop (entryFrame m #[(.ref a), (.ref x), (.ref b), (.int (1 : Int32))] 4)) tgt := fun tgt kk => castTop (ef13_RRRI m (a) (x) (b) ((1 : Int32))) kk
 generalize hI : s₁.setTop (entryFrame m #[(.ref a), (.ref x), (.ref b), (.int (1 : Int32))] 4) = I0 at pre0 ⊢
 obtain ⟨cl1, Ar1, aq1, aS1, aN1, aH1, aG1⟩ := id V_b
 obtain ⟨cl2, Ar2, aq2, aS2, aN2, aH2, aG2⟩ := id V_b
 have hin3 : ¬ ((1 : Int32) < 0 ∨ cl2.slots.size ≤ ((1 : Int32)).toNatClampNeg) := inb_of aS2 ⟨by decide, by decide⟩
 obtain ⟨T3, h3, X3, e3, W3, st3⟩ := stR X0 hx hZ e0 Ar2 (j := (1 : Int32)) hin3 rfl (Sto.ofV Ar2 aq2 Ov_b_k (Ins.of_exa E_x (tw119 hw))) (g := (mkF m 14 #[.val (.ref a), .val (.ref x), .val (.ref b), .val (.int (1 : Int32))] [(.ref x), (.int (1 : Int32)), (.ref b)])) rfl rfl (hb hby d13_14)
 have N3 := Fr.snoc X3 N0 g_b
 have Vq3 : Arv Z h3 b b_k (.object "java/lang/Object") (10 : Int32) [(.ref x0), (.ref x), .null, .null, .null, .null, .null, .null, .null, .null] .null := Arv.set Ar2 aq2 aS2 aN2 aH2 aG2 rfl W3 1 rfl (Nat.le_of_ble_eq_true rfl)
 replace E_a := E_a.wr W3
 replace F_m := F_m.other W3 (Or.inl (Ne.symm ne_b_a))
 replace F_s := F_s.other W3 (Or.inl (Ne.symm ne_b_a))
 replace F_e := F_e.other W3 (Or.inl (Ne.symm ne_b_a))
 replace E_x := E_x.wr W3
 have Zs4 := Nat.le_trans Z0 (Keep.of_wr W3).1
 have KC4 := KC0.wr W3 (Or.inl (List.mem_of_getElem? (i := 1) rfl))
 obtain ⟨T5, h5, X5, e5, W5, st5⟩ := putF X3 hx hZ hown (host := "") (Or.inl (tw56 hw)) Via.refl e3 F_s E_a (Or.inl (tw57 hw)) (tw24 hw) (ty := .int) (by decide) rfl rfl (g := (mkF m 19 #[.val (.ref a), .val (.ref x), .val (.ref b), .val (.int (1 : Int32))] [(.int (2 : Int32)), (.ref a)])) rfl rfl (hb hby d13_19)
 have N5 := Fr.snoc X5 N3 g_a
 have Fq5 := F_s.same W5
 replace E_a := E_a.wr W5
 replace F_m := F_m.other W5 (Or.inr (slot_ne (Or.inl (tw43 hw)) (Or.inl (tw57 hw)) (by decide) (t := .int) (t' := .int) (by decide) (by decide)))
 replace F_e := F_e.other W5 (Or.inr (slot_ne (Or.inl (tw46 hw)) (Or.inl (tw57 hw)) (by decide) (t := (.array (.object "java/lang/Object"))) (t' := .int) (by decide) (by decide)))
 replace Vq3 := Vq3.other W5 ne_b_a
 have Zs6 := Nat.le_trans Zs4 (Keep.of_wr W5).1
 have KC6 := KC4.wr W5 (Or.inl (List.mem_of_getElem? (i := 0) rfl))
 obtain ⟨fs, hr, hrun, hended, hW, hsame⟩ := X5.leave (v := none) (fun _ => rfl)
 refine ⟨_, _, pre0 _ ?_, hrun, hended, _, _, rfl, ?_, ⟨_, rfl⟩, hW, hsame.mono (by decide) (by decide)⟩
 ·skip
  refine XS.iloadN X0.here hx rfl (hb hby d13_0) rfl ?_
  refine XS.aloadN X0.here hx rfl (hb hby d13_1) rfl rfl ?_
  refine X0.arraylength hx (by rw [e0]; exact Ar1.1) (State.isArrayOf_alike hZ.alike Ar1.2.1) (g := (mkF m 2 #[.val (.ref a), .val (.ref x), .val (.ref b), .val (.int (1 : Int32))] [(.ref b), (.int (1 : Int32))])) rfl rfl (hb hby d13_2) _ ?_
  rw [len_of aS1 aN1]
  refine XS.icmpYes X0.here hx rfl (pc0 := 3) (pc' := 11) rfl (hb hby d13_3) rfl (XT.ii_ne_t (by decide)) (by decide) (by decide) ?_
  refine XS.aloadN X0.here hx rfl (hb hby d13_11) rfl rfl ?_
  refine XS.iloadN X0.here hx rfl (hb hby d13_12) rfl ?_
  refine XS.aloadN X0.here hx rfl (hb hby d13_13) rfl rfl ?_
  refine st3 _ ?_
  refine XS.aloadN X3.here hx rfl (hb hby d13_15) rfl rfl ?_
  refine XS.iloadN X3.here hx rfl (hb hby d13_16) rfl ?_
  refine XS.iconst X3.here hx rfl (hb hby d13_17) ?_
  refine XS.iadd X3.here hx rfl (hb hby d13_18) rfl ?_
  refine st5 _ ?_
  exact X5.returnOut hx Bd.returns (hb hby d13_22) hr
 ·show QP1 Z a b b_k x x0 h0 n0 _ T5.heap _
  rw [e5]
  exact ⟨rfl, N5, KC6, F_m, Fq5, F_e, Vq3⟩
def QA1 (Z : State) (a : Addr) (b : Addr) (b_k : ClassId) (x : Addr) (x0 : Addr) (h0 : Heap) (n0 : Nat) (v : Option Value) (h : Heap) (L : List Loc) : Prop := v = some (.int (1 : Int32)) ∧ Fr n0 L ∧ Keep h0 h [a, b] ∧ Fld Z h a aB "modCount" "I" (.int (2 : Int32)) ∧ Fld Z h a aL "size" "I" (.int (2 : Int32)) ∧ Fld Z h a aL "elementData" lO (.ref b) ∧ Arv Z h b b_k (.object "java/lang/Object") (10 : Int32) [(.ref x0), (.ref x), .null, .null, .null, .null, .null, .null, .null, .null] .null
set_option maxRecDepth 65536 in
set_option maxHeartbeats 40000000 in
theorem rmA1 (l : Launch) (Z : State) (a0 : Array Value) (hw : HW a0 Z) (ws : List Jvm.Cond) (a : Addr) (b : Addr) (b_k : ClassId) (x : Addr) (x0 : Addr) (h0 : Heap) (n0 : Nat) (Z0 : n0 ≤ h0.size) (E_a : Exa Z h0 a aL) (F_m : Fld Z h0 a aB "modCount" "I" (.int (1 : Int32))) (F_s : Fld Z h0 a aL "size" "I" (.int (1 : Int32))) (F_e : Fld Z h0 a aL "elementData" lO (.ref b)) (V_b : Arv Z h0 b b_k (.object "java/lang/Object") (10 : Int32) [(.ref x0), .null, .null, .null, .null, .null, .null, .null, .null, .null] .null) (Ov_b_k : Ovr Z b_k "java/lang/Object") (g_a : n0 ≤ a) (g_b : n0 ≤ b) (ne_b_a : b ≠ a) (E_x : Exa Z h0 x iN) :
    MetFree l M9 (head1 (Jvm.Cond.code M9 jdk_38_method_25_code 2 (some .boolean) :: ws) R4_0_0_80) (fun ar UU => ar = #[(.ref a), (.ref x)] ∧ Z.Warmed39 UU.vm ∧ UU.heap = h0) (fun _ _ _ _ _ => True) (fun _ UU oo UU' => ∃ vv LL, oo = .returned vv ∧ QA1 Z a b b_k x x0 h0 n0 vv UU'.heap LL ∧ FrameEnd UU oo UU' LL R4_0_0_80.cells R4_0_0_80.slots) := by
 refine MetFree.of_bodySF (plainFor_of_name pn_12) hisR ?_
 intro p e s m args below meth c s₁ Bd hml0 hP hK
 obtain ⟨rfl, hZ, hh⟩ := hP
 have hx := Bd.exec
 have hby := Bd.bytes
 have hml : c.maxLocals = 2 := hml0
 have hown : s.vm.findClass "java/util/ArrayList" = some m.cls := findClass_of_methodNamed Bd.named
 have hnm := (name_of_methodNamed Bd.named Bd.method).1
 have X0 : Stand p l e R4_0_0_80 s m #[(.ref a), (.ref x)] below meth c s₁ [] 0 0 := Stand.of_body Bd
 have e0 : s₁.heap = h0 := by rw [← hh, Bd.state]; rfl
 have N0 := Fr.nil n0
 have KC0 : Keep h0 h0 [a, b] := Keep.refl h0 [a, b]
 have pre0 : ∀ tgt, Steps p.tables e below (s₁.setTop (mkF m 0 #[.val (.ref a), .val (.ref x)] [])) tgt → Steps p.tables e below (s₁.setTop (entryFrame m #[(.ref a), (.ref x)] 2)) tgt := fun tgt kk => castTop (ef12_RR m (a) (x)) kk
 generalize hI : s₁.setTop (entryFrame m #[(.ref a), (.ref x)] 2) = I0 at pre0 ⊢
 obtain ⟨T1, X1, e1, st1⟩ := getF X0 hx hZ hown (host := "") (Or.inl (tw97 hw)) (Via.of (tw98 hw)) e0 F_m (g := (mkF m 2 #[.val (.ref a), .val (.ref x)] [(.ref a), (.ref a)])) rfl rfl (hb hby d12_2)
 obtain ⟨T2, h2, X2, e2, W2, st2⟩ := putF X1 hx hZ hown (host := "") (Or.inl (tw97 hw)) (Via.of (tw98 hw)) e1 F_m E_a (Or.inl (tw43 hw)) (tw24 hw) (ty := .int) (by decide) rfl rfl (g := (mkF m 7 #[.val (.ref a), .val (.ref x)] [(.int (2 : Int32)), (.ref a)])) rfl rfl (hb hby d12_7)
 have N2 := Fr.snoc X2 N0 g_a
 have Fq2 := F_m.same W2
 replace E_a := E_a.wr W2
 replace F_s := F_s.other W2 (Or.inr (slot_ne (Or.inl (tw57 hw)) (Or.inl (tw43 hw)) (by decide) (t := .int) (t' := .int) (by decide) (by decide)))
 replace F_e := F_e.other W2 (Or.inr (slot_ne (Or.inl (tw46 hw)) (Or.inl (tw43 hw)) (by decide) (t := (.array (.object "java/lang/Object"))) (t' := .int) (by decide) (by decide)))
 replace V_b := V_b.other W2 ne_b_a
 replace E_x := E_x.wr W2
 have Zs3 := Nat.le_trans Z0 (Keep.of_wr W2).1
 have KC3 := KC0.wr W2 (Or.inl (List.mem_of_getElem? (i := 0) rfl))
 obtain ⟨T4, X4, e4, st4⟩ := getF X2 hx hZ hown (host := "") (Or.inl (tw45 hw)) Via.refl e2 F_e (g := (mkF m 13 #[.val (.ref a), .val (.ref x)] [(.ref a), (.ref x), (.ref a)])) rfl rfl (hb hby d12_13)
 obtain ⟨T5, X5, e5, st5⟩ := getF X4 hx hZ hown (host := "") (Or.inl (tw56 hw)) Via.refl e4 F_s (g := (mkF m 17 #[.val (.ref a), .val (.ref x)] [(.ref a), (.ref b), (.ref x), (.ref a)])) rfl rfl (hb hby d12_17)
 obtain ⟨cq7, q7, q7'⟩ := E_a.cell
 obtain ⟨_, _, ⟨T7, L7, k7, n7⟩, -, X7, ⟨Lc7, hQ7, l7, y7, z7⟩, st7⟩ := X5.privateBack hx (y := M8) hown (mvT hZ (tw99 hw)) (mvT hZ (tw100 hw)) (mvT hZ (tw102 hw)) (Cond.privateMethod_at (mvP hZ (tw101 hw) (args := #[]))) (mvT hZ (tw103 hw)) (by decide) (backOf (W := 0) (rmP1 l Z a0 hw [] a b b_k x x0 h2 n0 Zs3 E_a Fq2 F_s F_e V_b Ov_b_k g_a g_b ne_b_a E_x) hZ (tw103 hw) (tw25 hw) (by decide) (by decide)) (g := (mkF m 20 #[.val (.ref a), .val (.ref x)] [(.int (1 : Int32)), (.ref b), (.ref x), (.ref a)])) rfl (by rw [hml]; rfl) (Steps.refl _) (a := a) (by rw [e5]; exact q7) q7' (argsL := [(.ref x), (.ref b), (.int (1 : Int32))]) (rest := []) (lenOf pd__Ljava_lang_Object__Ljava_lang_Object_I_V rfl) rfl (own_mr rfl) (hb hby d12_20) (fun _ _ => ⟨rfl, e5, (by decide : 0 + 0 ≤ _), (by decide : 0 + 0 ≤ _)⟩)
 dsimp only [Pt.U, Pt.locs, Pt.cells, Pt.slots] at X7 l7 y7 z7 st7 hQ7
 rw [l7, y7, z7] at X7
 obtain ⟨rfl, N7q, K7, P7_0, P7_1, P7_2, P7_3⟩ := hQ7
 have N7 := Fr.app N2 N7q
 replace E_a := E_a.keep K7
 replace E_x := E_x.keep K7
 have Zs8 := Nat.le_trans Zs3 K7.1
 have KC8 := KC3.trans K7 (allS (Or.inl (List.mem_of_getElem? (i := 0) rfl)) (allS (Or.inl (List.mem_of_getElem? (i := 1) rfl)) all0))
 obtain ⟨fs, hr, hrun, hended, hW, hsame⟩ := X7.leave (v := some (.int (1 : Int32))) (fun h => by rw [Bd.returns] at h; cases h)
 refine ⟨_, _, pre0 _ ?_, hrun, hended, _, _, rfl, ?_, ⟨_, rfl⟩, hW, hsame.mono (by decide) (by decide)⟩
 ·skip
  refine XS.aloadN X0.here hx rfl (hb hby d12_0) rfl rfl ?_
  refine XS.dup X0.here hx rfl (hb hby d12_1) rfl rfl ?_
  refine st1 _ ?_
  refine XS.iconst X1.here hx rfl (hb hby d12_5) ?_
  refine XS.iadd X1.here hx rfl (hb hby d12_6) rfl ?_
  refine st2 _ ?_
  refine XS.aloadN X2.here hx rfl (hb hby d12_10) rfl rfl ?_
  refine XS.aloadN X2.here hx rfl (hb hby d12_11) rfl rfl ?_
  refine XS.aloadN X2.here hx rfl (hb hby d12_12) rfl rfl ?_
  refine st4 _ ?_
  refine XS.aloadN X4.here hx rfl (hb hby d12_16) rfl rfl ?_
  refine st5 _ ?_
  refine st7.trans ?_
  refine XS.iconst X7.here hx rfl (hb hby d12_23) ?_
  exact retN X7 hx (t := .boolean) Bd.returns (by simp) (hb hby d12_24) hr
 ·show QA1 Z a b b_k x x0 h0 n0 _ T7.heap _
  exact ⟨rfl, N7, KC8, P7_0, P7_1, P7_2, P7_3⟩
def QP2 (Z : State) (a : Addr) (b : Addr) (b_k : ClassId) (x : Addr) (x0 : Addr) (x1 : Addr) (h0 : Heap) (n0 : Nat) (v : Option Value) (h : Heap) (L : List Loc) : Prop := v = none ∧ Fr n0 L ∧ Keep h0 h [a, b] ∧ Fld Z h a aB "modCount" "I" (.int (3 : Int32)) ∧ Fld Z h a aL "size" "I" (.int (3 : Int32)) ∧ Fld Z h a aL "elementData" lO (.ref b) ∧ Arv Z h b b_k (.object "java/lang/Object") (10 : Int32) [(.ref x0), (.ref x1), (.ref x), .null, .null, .null, .null, .null, .null, .null] .null
set_option maxRecDepth 65536 in
set_option maxHeartbeats 40000000 in
theorem rmP2 (l : Launch) (Z : State) (a0 : Array Value) (hw : HW a0 Z) (ws : List Jvm.Cond) (a : Addr) (b : Addr) (b_k : ClassId) (x : Addr) (x0 : Addr) (x1 : Addr) (h0 : Heap) (n0 : Nat) (Z0 : n0 ≤ h0.size) (E_a : Exa Z h0 a aL) (F_m : Fld Z h0 a aB "modCount" "I" (.int (3 : Int32))) (F_s : Fld Z h0 a aL "size" "I" (.int (2 : Int32))) (F_e : Fld Z h0 a aL "elementData" lO (.ref b)) (V_b : Arv Z h0 b b_k (.object "java/lang/Object") (10 : Int32) [(.ref x0), (.ref x1), .null, .null, .null, .null, .null, .null, .null, .null] .null) (Ov_b_k : Ovr Z b_k "java/lang/Object") (g_a : n0 ≤ a) (g_b : n0 ≤ b) (ne_b_a : b ≠ a) (E_x : Exa Z h0 x iN) :
    MetFree l M8 (head1 (Jvm.Cond.code M8 jdk_38_method_24_code 4 none :: ws) R3_0_0_60) (fun ar UU => ar = #[(.ref a), (.ref x), (.ref b), (.int (2 : Int32))] ∧ Z.Warmed39 UU.vm ∧ UU.heap = h0) (fun _ _ _ _ _ => True) (fun _ UU oo UU' => ∃ vv LL, oo = .returned vv ∧ QP2 Z a b b_k x x0 x1 h0 n0 vv UU'.heap LL ∧ FrameEnd UU oo UU' LL R3_0_0_60.cells R3_0_0_60.slots) := by
 refine MetFree.of_bodySF (plainFor_of_name pn_13) hisR ?_
 intro p e s m args below meth c s₁ Bd hml0 hP hK
 obtain ⟨rfl, hZ, hh⟩ := hP
 have hx := Bd.exec
 have hby := Bd.bytes
 have hml : c.maxLocals = 4 := hml0
 have hown : s.vm.findClass "java/util/ArrayList" = some m.cls := findClass_of_methodNamed Bd.named
 have hnm := (name_of_methodNamed Bd.named Bd.method).1
 have X0 : Stand p l e R3_0_0_60 s m #[(.ref a), (.ref x), (.ref b), (.int (2 : Int32))] below meth c s₁ [] 0 0 := Stand.of_body Bd
 have e0 : s₁.heap = h0 := by rw [← hh, Bd.state]; rfl
 have N0 := Fr.nil n0
 have KC0 : Keep h0 h0 [a, b] := Keep.refl h0 [a, b]
 have pre0 : ∀ tgt, Steps p.tables e below (s₁.setTop (mkF m 0 #[.val (.ref a), .val (.ref x), .val (.ref b), .val (.int (2 : Int32))] [])) tgt → Steps p.tables e below (s₁.setTop (entryFrame m #[(.ref a), (.ref x), (.ref b), (.int (2 : Int32))] 4)) tgt := fun tgt kk => castTop (ef13_RRRI m (a) (x) (b) ((2 : Int32))) kk
 generalize hI : s₁.setTop (entryFrame m #[(.ref a), (.ref x), (.ref b), (.int (2 : Int32))] 4) = I0 at pre0 ⊢
 obtain ⟨cl1, Ar1, aq1, aS1, aN1, aH1, aG1⟩ := id V_b
 obtain ⟨cl2, Ar2, aq2, aS2, aN2, aH2, aG2⟩ := id V_b
 have hin3 : ¬ ((2 : Int32) < 0 ∨ cl2.slots.size ≤ ((2 : Int32)).toNatClampNeg) := inb_of aS2 ⟨by decide, by decide⟩
 obtain ⟨T3, h3, X3, e3, W3, st3⟩ := stR X0 hx hZ e0 Ar2 (j := (2 : Int32)) hin3 rfl (Sto.ofV Ar2 aq2 Ov_b_k (Ins.of_exa E_x (tw119 hw))) (g := (mkF m 14 #[.val (.ref a), .val (.ref x), .val (.ref b), .val (.int (2 : Int32))] [(.ref x), (.int (2 : Int32)), (.ref b)])) rfl rfl (hb hby d13_14)
 have N3 := Fr.snoc X3 N0 g_b
 have Vq3 : Arv Z h3 b b_k (.object "java/lang/Object") (10 : Int32) [(.ref x0), (.ref x1), (.ref x), .null, .null, .null, .null, .null, .null, .null] .null := Arv.set Ar2 aq2 aS2 aN2 aH2 aG2 rfl W3 2 rfl (Nat.le_of_ble_eq_true rfl)
 replace E_a := E_a.wr W3
 replace F_m := F_m.other W3 (Or.inl (Ne.symm ne_b_a))
 replace F_s := F_s.other W3 (Or.inl (Ne.symm ne_b_a))
 replace F_e := F_e.other W3 (Or.inl (Ne.symm ne_b_a))
 replace E_x := E_x.wr W3
 have Zs4 := Nat.le_trans Z0 (Keep.of_wr W3).1
 have KC4 := KC0.wr W3 (Or.inl (List.mem_of_getElem? (i := 1) rfl))
 obtain ⟨T5, h5, X5, e5, W5, st5⟩ := putF X3 hx hZ hown (host := "") (Or.inl (tw56 hw)) Via.refl e3 F_s E_a (Or.inl (tw57 hw)) (tw24 hw) (ty := .int) (by decide) rfl rfl (g := (mkF m 19 #[.val (.ref a), .val (.ref x), .val (.ref b), .val (.int (2 : Int32))] [(.int (3 : Int32)), (.ref a)])) rfl rfl (hb hby d13_19)
 have N5 := Fr.snoc X5 N3 g_a
 have Fq5 := F_s.same W5
 replace E_a := E_a.wr W5
 replace F_m := F_m.other W5 (Or.inr (slot_ne (Or.inl (tw43 hw)) (Or.inl (tw57 hw)) (by decide) (t := .int) (t' := .int) (by decide) (by decide)))
 replace F_e := F_e.other W5 (Or.inr (slot_ne (Or.inl (tw46 hw)) (Or.inl (tw57 hw)) (by decide) (t := (.array (.object "java/lang/Object"))) (t' := .int) (by decide) (by decide)))
 replace Vq3 := Vq3.other W5 ne_b_a
 have Zs6 := Nat.le_trans Zs4 (Keep.of_wr W5).1
 have KC6 := KC4.wr W5 (Or.inl (List.mem_of_getElem? (i := 0) rfl))
 obtain ⟨fs, hr, hrun, hended, hW, hsame⟩ := X5.leave (v := none) (fun _ => rfl)
 refine ⟨_, _, pre0 _ ?_, hrun, hended, _, _, rfl, ?_, ⟨_, rfl⟩, hW, hsame.mono (by decide) (by decide)⟩
 ·skip
  refine XS.iloadN X0.here hx rfl (hb hby d13_0) rfl ?_
  refine XS.aloadN X0.here hx rfl (hb hby d13_1) rfl rfl ?_
  refine X0.arraylength hx (by rw [e0]; exact Ar1.1) (State.isArrayOf_alike hZ.alike Ar1.2.1) (g := (mkF m 2 #[.val (.ref a), .val (.ref x), .val (.ref b), .val (.int (2 : Int32))] [(.ref b), (.int (2 : Int32))])) rfl rfl (hb hby d13_2) _ ?_
  rw [len_of aS1 aN1]
  refine XS.icmpYes X0.here hx rfl (pc0 := 3) (pc' := 11) rfl (hb hby d13_3) rfl (XT.ii_ne_t (by decide)) (by decide) (by decide) ?_
  refine XS.aloadN X0.here hx rfl (hb hby d13_11) rfl rfl ?_
  refine XS.iloadN X0.here hx rfl (hb hby d13_12) rfl ?_
  refine XS.aloadN X0.here hx rfl (hb hby d13_13) rfl rfl ?_
  refine st3 _ ?_
  refine XS.aloadN X3.here hx rfl (hb hby d13_15) rfl rfl ?_
  refine XS.iloadN X3.here hx rfl (hb hby d13_16) rfl ?_
  refine XS.iconst X3.here hx rfl (hb hby d13_17) ?_
  refine XS.iadd X3.here hx rfl (hb hby d13_18) rfl ?_
  refine st5 _ ?_
  exact X5.returnOut hx Bd.returns (hb hby d13_22) hr
 ·show QP2 Z a b b_k x x0 x1 h0 n0 _ T5.heap _
  rw [e5]
  exact ⟨rfl, N5, KC6, F_m, Fq5, F_e, Vq3⟩
def QA2 (Z : State) (a : Addr) (b : Addr) (b_k : ClassId) (x : Addr) (x0 : Addr) (x1 : Addr) (h0 : Heap) (n0 : Nat) (v : Option Value) (h : Heap) (L : List Loc) : Prop := v = some (.int (1 : Int32)) ∧ Fr n0 L ∧ Keep h0 h [a, b] ∧ Fld Z h a aB "modCount" "I" (.int (3 : Int32)) ∧ Fld Z h a aL "size" "I" (.int (3 : Int32)) ∧ Fld Z h a aL "elementData" lO (.ref b) ∧ Arv Z h b b_k (.object "java/lang/Object") (10 : Int32) [(.ref x0), (.ref x1), (.ref x), .null, .null, .null, .null, .null, .null, .null] .null
set_option maxRecDepth 65536 in
set_option maxHeartbeats 40000000 in
theorem rmA2 (l : Launch) (Z : State) (a0 : Array Value) (hw : HW a0 Z) (ws : List Jvm.Cond) (a : Addr) (b : Addr) (b_k : ClassId) (x : Addr) (x0 : Addr) (x1 : Addr) (h0 : Heap) (n0 : Nat) (Z0 : n0 ≤ h0.size) (E_a : Exa Z h0 a aL) (F_m : Fld Z h0 a aB "modCount" "I" (.int (2 : Int32))) (F_s : Fld Z h0 a aL "size" "I" (.int (2 : Int32))) (F_e : Fld Z h0 a aL "elementData" lO (.ref b)) (V_b : Arv Z h0 b b_k (.object "java/lang/Object") (10 : Int32) [(.ref x0), (.ref x1), .null, .null, .null, .null, .null, .null, .null, .null] .null) (Ov_b_k : Ovr Z b_k "java/lang/Object") (g_a : n0 ≤ a) (g_b : n0 ≤ b) (ne_b_a : b ≠ a) (E_x : Exa Z h0 x iN) :
    MetFree l M9 (head1 (Jvm.Cond.code M9 jdk_38_method_25_code 2 (some .boolean) :: ws) R4_0_0_80) (fun ar UU => ar = #[(.ref a), (.ref x)] ∧ Z.Warmed39 UU.vm ∧ UU.heap = h0) (fun _ _ _ _ _ => True) (fun _ UU oo UU' => ∃ vv LL, oo = .returned vv ∧ QA2 Z a b b_k x x0 x1 h0 n0 vv UU'.heap LL ∧ FrameEnd UU oo UU' LL R4_0_0_80.cells R4_0_0_80.slots) := by
 refine MetFree.of_bodySF (plainFor_of_name pn_12) hisR ?_
 intro p e s m args below meth c s₁ Bd hml0 hP hK
 obtain ⟨rfl, hZ, hh⟩ := hP
 have hx := Bd.exec
 have hby := Bd.bytes
 have hml : c.maxLocals = 2 := hml0
 have hown : s.vm.findClass "java/util/ArrayList" = some m.cls := findClass_of_methodNamed Bd.named
 have hnm := (name_of_methodNamed Bd.named Bd.method).1
 have X0 : Stand p l e R4_0_0_80 s m #[(.ref a), (.ref x)] below meth c s₁ [] 0 0 := Stand.of_body Bd
 have e0 : s₁.heap = h0 := by rw [← hh, Bd.state]; rfl
 have N0 := Fr.nil n0
 have KC0 : Keep h0 h0 [a, b] := Keep.refl h0 [a, b]
 have pre0 : ∀ tgt, Steps p.tables e below (s₁.setTop (mkF m 0 #[.val (.ref a), .val (.ref x)] [])) tgt → Steps p.tables e below (s₁.setTop (entryFrame m #[(.ref a), (.ref x)] 2)) tgt := fun tgt kk => castTop (ef12_RR m (a) (x)) kk
 generalize hI : s₁.setTop (entryFrame m #[(.ref a), (.ref x)] 2) = I0 at pre0 ⊢
 obtain ⟨T1, X1, e1, st1⟩ := getF X0 hx hZ hown (host := "") (Or.inl (tw97 hw)) (Via.of (tw98 hw)) e0 F_m (g := (mkF m 2 #[.val (.ref a), .val (.ref x)] [(.ref a), (.ref a)])) rfl rfl (hb hby d12_2)
 obtain ⟨T2, h2, X2, e2, W2, st2⟩ := putF X1 hx hZ hown (host := "") (Or.inl (tw97 hw)) (Via.of (tw98 hw)) e1 F_m E_a (Or.inl (tw43 hw)) (tw24 hw) (ty := .int) (by decide) rfl rfl (g := (mkF m 7 #[.val (.ref a), .val (.ref x)] [(.int (3 : Int32)), (.ref a)])) rfl rfl (hb hby d12_7)
 have N2 := Fr.snoc X2 N0 g_a
 have Fq2 := F_m.same W2
 replace E_a := E_a.wr W2
 replace F_s := F_s.other W2 (Or.inr (slot_ne (Or.inl (tw57 hw)) (Or.inl (tw43 hw)) (by decide) (t := .int) (t' := .int) (by decide) (by decide)))
 replace F_e := F_e.other W2 (Or.inr (slot_ne (Or.inl (tw46 hw)) (Or.inl (tw43 hw)) (by decide) (t := (.array (.object "java/lang/Object"))) (t' := .int) (by decide) (by decide)))
 replace V_b := V_b.other W2 ne_b_a
 replace E_x := E_x.wr W2
 have Zs3 := Nat.le_trans Z0 (Keep.of_wr W2).1
 have KC3 := KC0.wr W2 (Or.inl (List.mem_of_getElem? (i := 0) rfl))
 obtain ⟨T4, X4, e4, st4⟩ := getF X2 hx hZ hown (host := "") (Or.inl (tw45 hw)) Via.refl e2 F_e (g := (mkF m 13 #[.val (.ref a), .val (.ref x)] [(.ref a), (.ref x), (.ref a)])) rfl rfl (hb hby d12_13)
 obtain ⟨T5, X5, e5, st5⟩ := getF X4 hx hZ hown (host := "") (Or.inl (tw56 hw)) Via.refl e4 F_s (g := (mkF m 17 #[.val (.ref a), .val (.ref x)] [(.ref a), (.ref b), (.ref x), (.ref a)])) rfl rfl (hb hby d12_17)
 obtain ⟨cq7, q7, q7'⟩ := E_a.cell
 obtain ⟨_, _, ⟨T7, L7, k7, n7⟩, -, X7, ⟨Lc7, hQ7, l7, y7, z7⟩, st7⟩ := X5.privateBack hx (y := M8) hown (mvT hZ (tw99 hw)) (mvT hZ (tw100 hw)) (mvT hZ (tw102 hw)) (Cond.privateMethod_at (mvP hZ (tw101 hw) (args := #[]))) (mvT hZ (tw103 hw)) (by decide) (backOf (W := 0) (rmP2 l Z a0 hw [] a b b_k x x0 x1 h2 n0 Zs3 E_a Fq2 F_s F_e V_b Ov_b_k g_a g_b ne_b_a E_x) hZ (tw103 hw) (tw25 hw) (by decide) (by decide)) (g := (mkF m 20 #[.val (.ref a), .val (.ref x)] [(.int (2 : Int32)), (.ref b), (.ref x), (.ref a)])) rfl (by rw [hml]; rfl) (Steps.refl _) (a := a) (by rw [e5]; exact q7) q7' (argsL := [(.ref x), (.ref b), (.int (2 : Int32))]) (rest := []) (lenOf pd__Ljava_lang_Object__Ljava_lang_Object_I_V rfl) rfl (own_mr rfl) (hb hby d12_20) (fun _ _ => ⟨rfl, e5, (by decide : 0 + 0 ≤ _), (by decide : 0 + 0 ≤ _)⟩)
 dsimp only [Pt.U, Pt.locs, Pt.cells, Pt.slots] at X7 l7 y7 z7 st7 hQ7
 rw [l7, y7, z7] at X7
 obtain ⟨rfl, N7q, K7, P7_0, P7_1, P7_2, P7_3⟩ := hQ7
 have N7 := Fr.app N2 N7q
 replace E_a := E_a.keep K7
 replace E_x := E_x.keep K7
 have Zs8 := Nat.le_trans Zs3 K7.1
 have KC8 := KC3.trans K7 (allS (Or.inl (List.mem_of_getElem? (i := 0) rfl)) (allS (Or.inl (List.mem_of_getElem? (i := 1) rfl)) all0))
 obtain ⟨fs, hr, hrun, hended, hW, hsame⟩ := X7.leave (v := some (.int (1 : Int32))) (fun h => by rw [Bd.returns] at h; cases h)
 refine ⟨_, _, pre0 _ ?_, hrun, hended, _, _, rfl, ?_, ⟨_, rfl⟩, hW, hsame.mono (by decide) (by decide)⟩
 ·skip
  refine XS.aloadN X0.here hx rfl (hb hby d12_0) rfl rfl ?_
  refine XS.dup X0.here hx rfl (hb hby d12_1) rfl rfl ?_
  refine st1 _ ?_
  refine XS.iconst X1.here hx rfl (hb hby d12_5) ?_
  refine XS.iadd X1.here hx rfl (hb hby d12_6) rfl ?_
  refine st2 _ ?_
  refine XS.aloadN X2.here hx rfl (hb hby d12_10) rfl rfl ?_
  refine XS.aloadN X2.here hx rfl (hb hby d12_11) rfl rfl ?_
  refine XS.aloadN X2.here hx rfl (hb hby d12_12) rfl rfl ?_
  refine st4 _ ?_
  refine XS.aloadN X4.here hx rfl (hb hby d12_16) rfl rfl ?_
  refine st5 _ ?_
  refine st7.trans ?_
  refine XS.iconst X7.here hx rfl (hb hby d12_23) ?_
  exact retN X7 hx (t := .boolean) Bd.returns (by simp) (hb hby d12_24) hr
 ·show QA2 Z a b b_k x x0 x1 h0 n0 _ T7.heap _
  exact ⟨rfl, N7, KC8, P7_0, P7_1, P7_2, P7_3⟩
theorem d11_0 : decode cj_33_22 0 = .ok (.iload_n 0, 1) := by decide +kernel
theorem d11_1 : decode cj_33_22 1 = .ok (.bipush (-128), 2) := by decide +kernel
theorem d11_3 : decode cj_33_22 3 = .ok (.if_icmp .lt 20, 3) := by decide +kernel
theorem d11_6 : decode cj_33_22 6 = .ok (.iload_n 0, 1) := by decide +kernel
theorem d11_7 : decode cj_33_22 7 = .ok (.getstatic 191, 3) := by decide +kernel
theorem d11_10 : decode cj_33_22 10 = .ok (.if_icmp .gt 13, 3) := by decide +kernel
theorem d11_13 : decode cj_33_22 13 = .ok (.getstatic 195, 3) := by decide +kernel
theorem d11_16 : decode cj_33_22 16 = .ok (.iload_n 0, 1) := by decide +kernel
theorem d11_17 : decode cj_33_22 17 = .ok (.sipush 128, 3) := by decide +kernel
theorem d11_20 : decode cj_33_22 20 = .ok (.iadd, 1) := by decide +kernel
theorem d11_21 : decode cj_33_22 21 = .ok (.aaload, 1) := by decide +kernel
theorem d11_22 : decode cj_33_22 22 = .ok (.areturn, 1) := by decide +kernel
theorem pn_11 : plainName "java/lang/Integer" = true := by first | (simp [plainName, overriddenIn]; done) | decide +kernel
theorem ef11_I (m : MethodId) (x0 : Int32) : entryFrame m #[(.int x0)] 1 = mkF m 0 #[.val (.int x0)] [] := by first | (simp [entryFrame, mkF, argsToLocals, Value.category]; done) | rfl
def QV0 (Z : State) (aC : Addr) (kC : ClassId) (lC : List Value) (i0 : Addr) (h0 : Heap) (n0 : Nat) (v : Option Value) (h : Heap) (L : List Loc) : Prop := v = some (.ref i0) ∧ Fr n0 L ∧ h = h0
set_option maxRecDepth 65536 in
set_option maxHeartbeats 40000000 in
theorem rmV0 (l : Launch) (Z : State) (a0 : Array Value) (hw : HW a0 Z) (ws : List Jvm.Cond) (aC : Addr) (kC : ClassId) (lC : List Value) (i0 : Addr) (h0 : Heap) (n0 : Nat) (Z0 : n0 ≤ h0.size) (S_H : Sta Z h0 iC "high" "I" (.int (127 : Int32))) (S_C : Sta Z h0 iC "cache" "[Ljava/lang/Integer;" (.ref aC)) (V_C : Arv Z h0 aC kC (.object "java/lang/Integer") (256 : Int32) lC .null) (hat0 : lC.getD (128 : Int32).toNatClampNeg .null = .ref i0) :
    MetFree l M10 (head1 (Jvm.Cond.code M10 jdk_33_method_22_code 1 (some (.object "java/lang/Integer")) :: ws) R0_0_0_0) (fun ar UU => ar = #[(.int (0 : Int32))] ∧ Z.Warmed39 UU.vm ∧ UU.heap = h0) (fun _ _ _ _ _ => True) (fun _ UU oo UU' => ∃ vv LL, oo = .returned vv ∧ QV0 Z aC kC lC i0 h0 n0 vv UU'.heap LL ∧ FrameEnd UU oo UU' LL R0_0_0_0.cells R0_0_0_0.slots) := by
 refine MetFree.of_bodySF (plainFor_of_name pn_11) hisR ?_
 intro p e s m args below meth c s₁ Bd hml0 hP hK
 obtain ⟨rfl, hZ, hh⟩ := hP
 have hx := Bd.exec
 have hby := Bd.bytes
 have hml : c.maxLocals = 1 := hml0
 have hown : s.vm.findClass "java/lang/Integer" = some m.cls := findClass_of_methodNamed Bd.named
 have hnm := (name_of_methodNamed Bd.named Bd.method).1
 have X0 : Stand p l e R0_0_0_0 s m #[(.int (0 : Int32))] below meth c s₁ [] 0 0 := Stand.of_body Bd
 have e0 : s₁.heap = h0 := by rw [← hh, Bd.state]; rfl
 have N0 := Fr.nil n0
 have KC0 : Keep h0 h0 [] := Keep.refl h0 []
 have pre0 : ∀ tgt, Steps p.tables e below (s₁.setTop (mkF m 0 #[.val (.int (0 : Int32))] [])) tgt → Steps p.tables e below (s₁.setTop (entryFrame m #[(.int (0 : Int32))] 1)) tgt := fun tgt kk => castTop (ef11_I m ((0 : Int32))) kk
 generalize hI : s₁.setTop (entryFrame m #[(.int (0 : Int32))] 1) = I0 at pre0 ⊢
 obtain ⟨T1, X1, e1, st1⟩ := getS X0 hx hZ hown (host := "") (tw86 hw) Via.refl e0 S_H (g := (mkF m 7 #[.val (.int (0 : Int32))] [(.int (0 : Int32))])) rfl (hb hby d11_7)
 obtain ⟨T2, X2, e2, st2⟩ := getS X1 hx hZ hown (host := "") (tw88 hw) Via.refl e1 S_C (g := (mkF m 13 #[.val (.int (0 : Int32))] [])) rfl (hb hby d11_13)
 obtain ⟨cl3, Ar3, aq3, aS3, aN3, aH3, aG3⟩ := id V_C
 have hin4 : ¬ ((128 : Int32) < 0 ∨ cl3.slots.size ≤ ((128 : Int32)).toNatClampNeg) := inb_of aS3 ⟨by decide, by decide⟩
 have hat4 : cl3.slots[((128 : Int32)).toNatClampNeg]? = some (.ref i0) := Has.at aH3 hin4 hat0
 obtain ⟨fs, hr, hrun, hended, hW, hsame⟩ := X2.leave (v := some (.ref i0)) (fun h => by rw [Bd.returns] at h; cases h)
 refine ⟨_, _, pre0 _ ?_, hrun, hended, _, _, rfl, ?_, ⟨_, rfl⟩, hW, hsame.mono (by decide) (by decide)⟩
 ·skip
  refine XS.iloadN X0.here hx rfl (hb hby d11_0) rfl ?_
  refine XS.bipush X0.here hx rfl (hb hby d11_1) ?_
  refine XS.icmpNo X0.here hx rfl (hb hby d11_3) rfl (XT.ii_lt_f (by decide)) ?_
  refine XS.iloadN X0.here hx rfl (hb hby d11_6) rfl ?_
  refine st1 _ ?_
  refine XS.icmpNo X1.here hx rfl (hb hby d11_10) rfl (XT.ii_gt_f (by decide)) ?_
  refine st2 _ ?_
  refine XS.iloadN X2.here hx rfl (hb hby d11_16) rfl ?_
  refine XS.sipush X2.here hx rfl (hb hby d11_17) ?_
  refine XS.iadd X2.here hx rfl (hb hby d11_20) rfl ?_
  refine X2.aaload hx (j := (128 : Int32)) (v := (.ref i0)) (by rw [e2]; exact Ar3.1) (State.isArrayOf_alike hZ.alike Ar3.2.1) rfl Ar3.2.2 hin4 hat4 (g := (mkF m 21 #[.val (.int (0 : Int32))] [(.int (128 : Int32)), (.ref aC)])) rfl rfl (hb hby d11_21) _ ?_
  exact retOut X2 hx Bd.returns rfl (Or.inr (Or.inr (Or.inr (Or.inr ⟨rfl, rfl, rfl⟩)))) (hb hby d11_22) hr
 ·show QV0 Z aC kC lC i0 h0 n0 _ T2.heap _
  rw [e2]
  exact ⟨rfl, N0, rfl⟩
def QV1 (Z : State) (aC : Addr) (kC : ClassId) (lC : List Value) (i1 : Addr) (h0 : Heap) (n0 : Nat) (v : Option Value) (h : Heap) (L : List Loc) : Prop := v = some (.ref i1) ∧ Fr n0 L ∧ h = h0
set_option maxRecDepth 65536 in
set_option maxHeartbeats 40000000 in
theorem rmV1 (l : Launch) (Z : State) (a0 : Array Value) (hw : HW a0 Z) (ws : List Jvm.Cond) (aC : Addr) (kC : ClassId) (lC : List Value) (i1 : Addr) (h0 : Heap) (n0 : Nat) (Z0 : n0 ≤ h0.size) (S_H : Sta Z h0 iC "high" "I" (.int (127 : Int32))) (S_C : Sta Z h0 iC "cache" "[Ljava/lang/Integer;" (.ref aC)) (V_C : Arv Z h0 aC kC (.object "java/lang/Integer") (256 : Int32) lC .null) (hat1 : lC.getD (129 : Int32).toNatClampNeg .null = .ref i1) :
    MetFree l M10 (head1 (Jvm.Cond.code M10 jdk_33_method_22_code 1 (some (.object "java/lang/Integer")) :: ws) R0_0_0_0) (fun ar UU => ar = #[(.int (1 : Int32))] ∧ Z.Warmed39 UU.vm ∧ UU.heap = h0) (fun _ _ _ _ _ => True) (fun _ UU oo UU' => ∃ vv LL, oo = .returned vv ∧ QV1 Z aC kC lC i1 h0 n0 vv UU'.heap LL ∧ FrameEnd UU oo UU' LL R0_0_0_0.cells R0_0_0_0.slots) := by
 refine MetFree.of_bodySF (plainFor_of_name pn_11) hisR ?_
 intro p e s m args below meth c s₁ Bd hml0 hP hK
 obtain ⟨rfl, hZ, hh⟩ := hP
 have hx := Bd.exec
 have hby := Bd.bytes
 have hml : c.maxLocals = 1 := hml0
 have hown : s.vm.findClass "java/lang/Integer" = some m.cls := findClass_of_methodNamed Bd.named
 have hnm := (name_of_methodNamed Bd.named Bd.method).1
 have X0 : Stand p l e R0_0_0_0 s m #[(.int (1 : Int32))] below meth c s₁ [] 0 0 := Stand.of_body Bd
 have e0 : s₁.heap = h0 := by rw [← hh, Bd.state]; rfl
 have N0 := Fr.nil n0
 have KC0 : Keep h0 h0 [] := Keep.refl h0 []
 have pre0 : ∀ tgt, Steps p.tables e below (s₁.setTop (mkF m 0 #[.val (.int (1 : Int32))] [])) tgt → Steps p.tables e below (s₁.setTop (entryFrame m #[(.int (1 : Int32))] 1)) tgt := fun tgt kk => castTop (ef11_I m ((1 : Int32))) kk
 generalize hI : s₁.setTop (entryFrame m #[(.int (1 : Int32))] 1) = I0 at pre0 ⊢
 obtain ⟨T1, X1, e1, st1⟩ := getS X0 hx hZ hown (host := "") (tw86 hw) Via.refl e0 S_H (g := (mkF m 7 #[.val (.int (1 : Int32))] [(.int (1 : Int32))])) rfl (hb hby d11_7)
 obtain ⟨T2, X2, e2, st2⟩ := getS X1 hx hZ hown (host := "") (tw88 hw) Via.refl e1 S_C (g := (mkF m 13 #[.val (.int (1 : Int32))] [])) rfl (hb hby d11_13)
 obtain ⟨cl3, Ar3, aq3, aS3, aN3, aH3, aG3⟩ := id V_C
 have hin4 : ¬ ((129 : Int32) < 0 ∨ cl3.slots.size ≤ ((129 : Int32)).toNatClampNeg) := inb_of aS3 ⟨by decide, by decide⟩
 have hat4 : cl3.slots[((129 : Int32)).toNatClampNeg]? = some (.ref i1) := Has.at aH3 hin4 hat1
 obtain ⟨fs, hr, hrun, hended, hW, hsame⟩ := X2.leave (v := some (.ref i1)) (fun h => by rw [Bd.returns] at h; cases h)
 refine ⟨_, _, pre0 _ ?_, hrun, hended, _, _, rfl, ?_, ⟨_, rfl⟩, hW, hsame.mono (by decide) (by decide)⟩
 ·skip
  refine XS.iloadN X0.here hx rfl (hb hby d11_0) rfl ?_
  refine XS.bipush X0.here hx rfl (hb hby d11_1) ?_
  refine XS.icmpNo X0.here hx rfl (hb hby d11_3) rfl (XT.ii_lt_f (by decide)) ?_
  refine XS.iloadN X0.here hx rfl (hb hby d11_6) rfl ?_
  refine st1 _ ?_
  refine XS.icmpNo X1.here hx rfl (hb hby d11_10) rfl (XT.ii_gt_f (by decide)) ?_
  refine st2 _ ?_
  refine XS.iloadN X2.here hx rfl (hb hby d11_16) rfl ?_
  refine XS.sipush X2.here hx rfl (hb hby d11_17) ?_
  refine XS.iadd X2.here hx rfl (hb hby d11_20) rfl ?_
  refine X2.aaload hx (j := (129 : Int32)) (v := (.ref i1)) (by rw [e2]; exact Ar3.1) (State.isArrayOf_alike hZ.alike Ar3.2.1) rfl Ar3.2.2 hin4 hat4 (g := (mkF m 21 #[.val (.int (1 : Int32))] [(.int (129 : Int32)), (.ref aC)])) rfl rfl (hb hby d11_21) _ ?_
  exact retOut X2 hx Bd.returns rfl (Or.inr (Or.inr (Or.inr (Or.inr ⟨rfl, rfl, rfl⟩)))) (hb hby d11_22) hr
 ·show QV1 Z aC kC lC i1 h0 n0 _ T2.heap _
  rw [e2]
  exact ⟨rfl, N0, rfl⟩
def QV2 (Z : State) (aC : Addr) (kC : ClassId) (lC : List Value) (i2 : Addr) (h0 : Heap) (n0 : Nat) (v : Option Value) (h : Heap) (L : List Loc) : Prop := v = some (.ref i2) ∧ Fr n0 L ∧ h = h0
set_option maxRecDepth 65536 in
set_option maxHeartbeats 40000000 in
theorem rmV2 (l : Launch) (Z : State) (a0 : Array Value) (hw : HW a0 Z) (ws : List Jvm.Cond) (aC : Addr) (kC : ClassId) (lC : List Value) (i2 : Addr) (h0 : Heap) (n0 : Nat) (Z0 : n0 ≤ h0.size) (S_H : Sta Z h0 iC "high" "I" (.int (127 : Int32))) (S_C : Sta Z h0 iC "cache" "[Ljava/lang/Integer;" (.ref aC)) (V_C : Arv Z h0 aC kC (.object "java/lang/Integer") (256 : Int32) lC .null) (hat2 : lC.getD (130 : Int32).toNatClampNeg .null = .ref i2) :
    MetFree l M10 (head1 (Jvm.Cond.code M10 jdk_33_method_22_code 1 (some (.object "java/lang/Integer")) :: ws) R0_0_0_0) (fun ar UU => ar = #[(.int (2 : Int32))] ∧ Z.Warmed39 UU.vm ∧ UU.heap = h0) (fun _ _ _ _ _ => True) (fun _ UU oo UU' => ∃ vv LL, oo = .returned vv ∧ QV2 Z aC kC lC i2 h0 n0 vv UU'.heap LL ∧ FrameEnd UU oo UU' LL R0_0_0_0.cells R0_0_0_0.slots) := by
 refine MetFree.of_bodySF (plainFor_of_name pn_11) hisR ?_
 intro p e s m args below meth c s₁ Bd hml0 hP hK
 obtain ⟨rfl, hZ, hh⟩ := hP
 have hx := Bd.exec
 have hby := Bd.bytes
 have hml : c.maxLocals = 1 := hml0
 have hown : s.vm.findClass "java/lang/Integer" = some m.cls := findClass_of_methodNamed Bd.named
 have hnm := (name_of_methodNamed Bd.named Bd.method).1
 have X0 : Stand p l e R0_0_0_0 s m #[(.int (2 : Int32))] below meth c s₁ [] 0 0 := Stand.of_body Bd
 have e0 : s₁.heap = h0 := by rw [← hh, Bd.state]; rfl
 have N0 := Fr.nil n0
 have KC0 : Keep h0 h0 [] := Keep.refl h0 []
 have pre0 : ∀ tgt, Steps p.tables e below (s₁.setTop (mkF m 0 #[.val (.int (2 : Int32))] [])) tgt → Steps p.tables e below (s₁.setTop (entryFrame m #[(.int (2 : Int32))] 1)) tgt := fun tgt kk => castTop (ef11_I m ((2 : Int32))) kk
 generalize hI : s₁.setTop (entryFrame m #[(.int (2 : Int32))] 1) = I0 at pre0 ⊢
 obtain ⟨T1, X1, e1, st1⟩ := getS X0 hx hZ hown (host := "") (tw86 hw) Via.refl e0 S_H (g := (mkF m 7 #[.val (.int (2 : Int32))] [(.int (2 : Int32))])) rfl (hb hby d11_7)
 obtain ⟨T2, X2, e2, st2⟩ := getS X1 hx hZ hown (host := "") (tw88 hw) Via.refl e1 S_C (g := (mkF m 13 #[.val (.int (2 : Int32))] [])) rfl (hb hby d11_13)
 obtain ⟨cl3, Ar3, aq3, aS3, aN3, aH3, aG3⟩ := id V_C
 have hin4 : ¬ ((130 : Int32) < 0 ∨ cl3.slots.size ≤ ((130 : Int32)).toNatClampNeg) := inb_of aS3 ⟨by decide, by decide⟩
 have hat4 : cl3.slots[((130 : Int32)).toNatClampNeg]? = some (.ref i2) := Has.at aH3 hin4 hat2
 obtain ⟨fs, hr, hrun, hended, hW, hsame⟩ := X2.leave (v := some (.ref i2)) (fun h => by rw [Bd.returns] at h; cases h)
 refine ⟨_, _, pre0 _ ?_, hrun, hended, _, _, rfl, ?_, ⟨_, rfl⟩, hW, hsame.mono (by decide) (by decide)⟩
 ·skip
  refine XS.iloadN X0.here hx rfl (hb hby d11_0) rfl ?_
  refine XS.bipush X0.here hx rfl (hb hby d11_1) ?_
  refine XS.icmpNo X0.here hx rfl (hb hby d11_3) rfl (XT.ii_lt_f (by decide)) ?_
  refine XS.iloadN X0.here hx rfl (hb hby d11_6) rfl ?_
  refine st1 _ ?_
  refine XS.icmpNo X1.here hx rfl (hb hby d11_10) rfl (XT.ii_gt_f (by decide)) ?_
  refine st2 _ ?_
  refine XS.iloadN X2.here hx rfl (hb hby d11_16) rfl ?_
  refine XS.sipush X2.here hx rfl (hb hby d11_17) ?_
  refine XS.iadd X2.here hx rfl (hb hby d11_20) rfl ?_
  refine X2.aaload hx (j := (130 : Int32)) (v := (.ref i2)) (by rw [e2]; exact Ar3.1) (State.isArrayOf_alike hZ.alike Ar3.2.1) rfl Ar3.2.2 hin4 hat4 (g := (mkF m 21 #[.val (.int (2 : Int32))] [(.int (130 : Int32)), (.ref aC)])) rfl rfl (hb hby d11_21) _ ?_
  exact retOut X2 hx Bd.returns rfl (Or.inr (Or.inr (Or.inr (Or.inr ⟨rfl, rfl, rfl⟩)))) (hb hby d11_22) hr
 ·show QV2 Z aC kC lC i2 h0 n0 _ T2.heap _
  rw [e2]
  exact ⟨rfl, N0, rfl⟩
theorem d21_0 : decode cj_33_27 0 = .ok (.aload_n 0, 1) := by decide +kernel
theorem d21_1 : decode cj_33_27 1 = .ok (.getfield 205, 3) := by decide +kernel
theorem d21_4 : decode cj_33_27 4 = .ok (.ireturn, 1) := by decide +kernel
theorem pn_21 : plainName "java/lang/Integer" = true := by first | (simp [plainName, overriddenIn]; done) | decide +kernel
theorem ef21_R (m : MethodId) (x0 : Addr) : entryFrame m #[(.ref x0)] 1 = mkF m 0 #[.val (.ref x0)] [] := by first | (simp [entryFrame, mkF, argsToLocals, Value.category]; done) | rfl
def QIV (Z : State) (a : Addr) (k : Int32) (h0 : Heap) (n0 : Nat) (v : Option Value) (h : Heap) (L : List Loc) : Prop := v = some (.int k) ∧ Fr n0 L ∧ h = h0
set_option maxRecDepth 65536 in
set_option maxHeartbeats 40000000 in
theorem rmIV (l : Launch) (Z : State) (a0 : Array Value) (hw : HW a0 Z) (ws : List Jvm.Cond) (a : Addr) (k : Int32) (h0 : Heap) (n0 : Nat) (Z0 : n0 ≤ h0.size) (F_v : Fld Z h0 a iN "value" "I" (.int k)) :
    MetFree l M11 (head1 (Jvm.Cond.code M11 jdk_33_method_27_code 1 (some .int) :: ws) R0_0_0_0) (fun ar UU => ar = #[(.ref a)] ∧ Z.Warmed39 UU.vm ∧ UU.heap = h0) (fun _ _ _ _ _ => True) (fun _ UU oo UU' => ∃ vv LL, oo = .returned vv ∧ QIV Z a k h0 n0 vv UU'.heap LL ∧ FrameEnd UU oo UU' LL R0_0_0_0.cells R0_0_0_0.slots) := by
 refine MetFree.of_bodySF (plainFor_of_name pn_21) hisR ?_
 intro p e s m args below meth c s₁ Bd hml0 hP hK
 obtain ⟨rfl, hZ, hh⟩ := hP
 have hx := Bd.exec
 have hby := Bd.bytes
 have hml : c.maxLocals = 1 := hml0
 have hown : s.vm.findClass "java/lang/Integer" = some m.cls := findClass_of_methodNamed Bd.named
 have hnm := (name_of_methodNamed Bd.named Bd.method).1
 have X0 : Stand p l e R0_0_0_0 s m #[(.ref a)] below meth c s₁ [] 0 0 := Stand.of_body Bd
 have e0 : s₁.heap = h0 := by rw [← hh, Bd.state]; rfl
 have N0 := Fr.nil n0
 have KC0 : Keep h0 h0 [] := Keep.refl h0 []
 have pre0 : ∀ tgt, Steps p.tables e below (s₁.setTop (mkF m 0 #[.val (.ref a)] [])) tgt → Steps p.tables e below (s₁.setTop (entryFrame m #[(.ref a)] 1)) tgt := fun tgt kk => castTop (ef21_R m (a)) kk
 generalize hI : s₁.setTop (entryFrame m #[(.ref a)] 1) = I0 at pre0 ⊢
 obtain ⟨T1, X1, e1, st1⟩ := getF X0 hx hZ hown (host := "") (Or.inl (tw148 hw)) Via.refl e0 F_v (g := (mkF m 1 #[.val (.ref a)] [(.ref a)])) rfl rfl (hb hby d21_1)
 obtain ⟨fs, hr, hrun, hended, hW, hsame⟩ := X1.leave (v := some (.int k)) (fun h => by rw [Bd.returns] at h; cases h)
 refine ⟨_, _, pre0 _ ?_, hrun, hended, _, _, rfl, ?_, ⟨_, rfl⟩, hW, hsame.mono (by decide) (by decide)⟩
 ·skip
  refine XS.aloadN X0.here hx rfl (hb hby d21_0) rfl rfl ?_
  refine st1 _ ?_
  exact retI X1 hx Bd.returns (hb hby d21_4) hr
 ·show QIV Z a k h0 n0 _ T1.heap _
  rw [e1]
  exact ⟨rfl, N0, rfl⟩
theorem d19_0 : decode cj_41_11 0 = .ok (.iload_n 0, 1) := by decide +kernel
theorem d19_1 : decode cj_41_11 1 = .ok (.ifCond .lt 8, 3) := by decide +kernel
theorem d19_4 : decode cj_41_11 4 = .ok (.iload_n 0, 1) := by decide +kernel
theorem d19_5 : decode cj_41_11 5 = .ok (.iload_n 1, 1) := by decide +kernel
theorem d19_6 : decode cj_41_11 6 = .ok (.if_icmp .lt 10, 3) := by decide +kernel
theorem d19_16 : decode cj_41_11 16 = .ok (.iload_n 0, 1) := by decide +kernel
theorem d19_17 : decode cj_41_11 17 = .ok (.ireturn, 1) := by decide +kernel
theorem pn_19 : plainName "jdk/internal/util/Preconditions" = true := by first | (simp [plainName, overriddenIn]; done) | decide +kernel
theorem ef19_IIN (m : MethodId) (x0 : Int32) (x1 : Int32) : entryFrame m #[(.int x0), (.int x1), .null] 3 = mkF m 0 #[.val (.int x0), .val (.int x1), .val .null] [] := by first | (simp [entryFrame, mkF, argsToLocals, Value.category]; done) | rfl
def QCk (Z : State) (j : Int32) (k : Int32) (h0 : Heap) (n0 : Nat) (v : Option Value) (h : Heap) (L : List Loc) : Prop := v = some (.int j) ∧ Fr n0 L ∧ h = h0
set_option maxRecDepth 65536 in
set_option maxHeartbeats 40000000 in
theorem rmCk (l : Launch) (Z : State) (a0 : Array Value) (hw : HW a0 Z) (ws : List Jvm.Cond) (j : Int32) (k : Int32) (h0 : Heap) (n0 : Nat) (Z0 : n0 ≤ h0.size) (hj : ¬ j < 0 ∧ j < k) :
    MetFree l M12 (head1 (Jvm.Cond.code M12 jdk_41_method_11_code 3 (some .int) :: ws) R0_0_0_0) (fun ar UU => ar = #[(.int j), (.int k), .null] ∧ Z.Warmed39 UU.vm ∧ UU.heap = h0) (fun _ _ _ _ _ => True) (fun _ UU oo UU' => ∃ vv LL, oo = .returned vv ∧ QCk Z j k h0 n0 vv UU'.heap LL ∧ FrameEnd UU oo UU' LL R0_0_0_0.cells R0_0_0_0.slots) := by
 refine MetFree.of_bodySF (plainFor_of_name pn_19) hisR ?_
 intro p e s m args below meth c s₁ Bd hml0 hP hK
 obtain ⟨rfl, hZ, hh⟩ := hP
 have hx := Bd.exec
 have hby := Bd.bytes
 have hml : c.maxLocals = 3 := hml0
 have hown : s.vm.findClass "jdk/internal/util/Preconditions" = some m.cls := findClass_of_methodNamed Bd.named
 have hnm := (name_of_methodNamed Bd.named Bd.method).1
 have X0 : Stand p l e R0_0_0_0 s m #[(.int j), (.int k), .null] below meth c s₁ [] 0 0 := Stand.of_body Bd
 have e0 : s₁.heap = h0 := by rw [← hh, Bd.state]; rfl
 have N0 := Fr.nil n0
 have KC0 : Keep h0 h0 [] := Keep.refl h0 []
 have pre0 : ∀ tgt, Steps p.tables e below (s₁.setTop (mkF m 0 #[.val (.int j), .val (.int k), .val .null] [])) tgt → Steps p.tables e below (s₁.setTop (entryFrame m #[(.int j), (.int k), .null] 3)) tgt := fun tgt kk => castTop (ef19_IIN m (j) (k)) kk
 generalize hI : s₁.setTop (entryFrame m #[(.int j), (.int k), .null] 3) = I0 at pre0 ⊢
 have hk1 : ¬ (j < (0 : Int32)) := hj.1
 have hk2 : j < k := hj.2
 obtain ⟨fs, hr, hrun, hended, hW, hsame⟩ := X0.leave (v := some (.int j)) (fun h => by rw [Bd.returns] at h; cases h)
 refine ⟨_, _, pre0 _ ?_, hrun, hended, _, _, rfl, ?_, ⟨_, rfl⟩, hW, hsame.mono (by decide) (by decide)⟩
 ·skip
  refine XS.iloadN X0.here hx rfl (hb hby d19_0) rfl ?_
  refine XS.ifNo X0.here hx rfl (hb hby d19_1) rfl (XT.i0_lt_f hk1) ?_
  refine XS.iloadN X0.here hx rfl (hb hby d19_4) rfl ?_
  refine XS.iloadN X0.here hx rfl (hb hby d19_5) rfl ?_
  refine XS.icmpYes X0.here hx rfl (pc0 := 6) (pc' := 16) rfl (hb hby d19_6) rfl (XT.ii_lt_t hk2) (by decide) (by decide) ?_
  refine XS.iloadN X0.here hx rfl (hb hby d19_16) rfl ?_
  exact retI X0 hx Bd.returns (hb hby d19_17) hr
 ·show QCk Z j k h0 n0 _ s₁.heap _
  rw [e0]
  exact ⟨rfl, N0, rfl⟩
theorem d18_0 : decode cj_31_17 0 = .ok (.iload_n 0, 1) := by decide +kernel
theorem d18_1 : decode cj_31_17 1 = .ok (.iload_n 1, 1) := by decide +kernel
theorem d18_2 : decode cj_31_17 2 = .ok (.aconst_null, 1) := by decide +kernel
theorem d18_3 : decode cj_31_17 3 = .ok (.invokestatic 105, 3) := by decide +kernel
theorem d18_6 : decode cj_31_17 6 = .ok (.ireturn, 1) := by decide +kernel
theorem pn_18 : plainName "java/util/Objects" = true := by first | (simp [plainName, overriddenIn]; done) | decide +kernel
theorem pd__IILjava_util_function_BiFunction__I : parseMethodDescriptor "(IILjava/util/function/BiFunction;)I" = some ⟨[.int, .int, (.object "java/util/function/BiFunction")], some .int⟩ := by decide +kernel
theorem ef18_II (m : MethodId) (x0 : Int32) (x1 : Int32) : entryFrame m #[(.int x0), (.int x1)] 2 = mkF m 0 #[.val (.int x0), .val (.int x1)] [] := by first | (simp [entryFrame, mkF, argsToLocals, Value.category]; done) | rfl
def QOc (Z : State) (j : Int32) (k : Int32) (h0 : Heap) (n0 : Nat) (v : Option Value) (h : Heap) (L : List Loc) : Prop := v = some (.int j) ∧ Fr n0 L ∧ h = h0
set_option maxRecDepth 65536 in
set_option maxHeartbeats 40000000 in
theorem rmOc (l : Launch) (Z : State) (a0 : Array Value) (hw : HW a0 Z) (ws : List Jvm.Cond) (j : Int32) (k : Int32) (h0 : Heap) (n0 : Nat) (Z0 : n0 ≤ h0.size) (hj : ¬ j < 0 ∧ j < k) :
    MetFree l M13 (head1 (Jvm.Cond.code M13 jdk_31_method_17_code 2 (some .int) :: ws) R1_0_0_20) (fun ar UU => ar = #[(.int j), (.int k)] ∧ Z.Warmed39 UU.vm ∧ UU.heap = h0) (fun _ _ _ _ _ => True) (fun _ UU oo UU' => ∃ vv LL, oo = .returned vv ∧ QOc Z j k h0 n0 vv UU'.heap LL ∧ FrameEnd UU oo UU' LL R1_0_0_20.cells R1_0_0_20.slots) := by
 refine MetFree.of_bodySF (plainFor_of_name pn_18) hisR ?_
 intro p e s m args below meth c s₁ Bd hml0 hP hK
 obtain ⟨rfl, hZ, hh⟩ := hP
 have hx := Bd.exec
 have hby := Bd.bytes
 have hml : c.maxLocals = 2 := hml0
 have hown : s.vm.findClass "java/util/Objects" = some m.cls := findClass_of_methodNamed Bd.named
 have hnm := (name_of_methodNamed Bd.named Bd.method).1
 have X0 : Stand p l e R1_0_0_20 s m #[(.int j), (.int k)] below meth c s₁ [] 0 0 := Stand.of_body Bd
 have e0 : s₁.heap = h0 := by rw [← hh, Bd.state]; rfl
 have N0 := Fr.nil n0
 have KC0 : Keep h0 h0 [] := Keep.refl h0 []
 have pre0 : ∀ tgt, Steps p.tables e below (s₁.setTop (mkF m 0 #[.val (.int j), .val (.int k)] [])) tgt → Steps p.tables e below (s₁.setTop (entryFrame m #[(.int j), (.int k)] 2)) tgt := fun tgt kk => castTop (ef18_II m (j) (k)) kk
 generalize hI : s₁.setTop (entryFrame m #[(.int j), (.int k)] 2) = I0 at pre0 ⊢
 obtain ⟨_, _, ⟨T1, L1, k1, n1⟩, -, X1, ⟨Lc1, hQ1, l1, y1, z1⟩, st1⟩ := Jvm.LawKit.callS X0 hx (y := M12) hown (mvT hZ (tw132 hw)) (mvT hZ (tw133 hw)) (mvT hZ (tw134 hw)) (mvT hZ (tw135 hw)) (by decide) (backOf (W := 0) (rmCk l Z a0 hw [] j k h0 n0 Z0 hj) hZ (tw135 hw) (tw134 hw) (by decide) (by decide)) (g := (mkF m 3 #[.val (.int j), .val (.int k)] [.null, (.int k), (.int j)])) rfl (by rw [hml]; rfl) (argsL := [(.int j), (.int k), .null]) (rest := []) (lenOf pd__IILjava_util_function_BiFunction__I rfl) rfl (own_mr rfl) (hb hby d18_3) (fun _ _ => ⟨rfl, e0, (by decide : 0 + 0 ≤ _), (by decide : 0 + 0 ≤ _)⟩)
 dsimp only [Pt.U, Pt.locs, Pt.cells, Pt.slots] at X1 l1 y1 z1 st1 hQ1
 rw [l1, y1, z1] at X1
 obtain ⟨rfl, N1q, hh1⟩ := hQ1
 have N1 := Fr.app N0 N1q
 obtain ⟨fs, hr, hrun, hended, hW, hsame⟩ := X1.leave (v := some (.int j)) (fun h => by rw [Bd.returns] at h; cases h)
 refine ⟨_, _, pre0 _ ?_, hrun, hended, _, _, rfl, ?_, ⟨_, rfl⟩, hW, hsame.mono (by decide) (by decide)⟩
 ·skip
  refine XS.iloadN X0.here hx rfl (hb hby d18_0) rfl ?_
  refine XS.iloadN X0.here hx rfl (hb hby d18_1) rfl ?_
  refine XS.aconstNull X0.here hx rfl (hb hby d18_2) ?_
  refine st1 _ ?_
  exact retI X1 hx Bd.returns (hb hby d18_6) hr
 ·show QOc Z j k h0 n0 _ T1.heap _
  rw [hh1]
  exact ⟨rfl, N1, rfl⟩
theorem d20_0 : decode cj_38_18 0 = .ok (.aload_n 0, 1) := by decide +kernel
theorem d20_1 : decode cj_38_18 1 = .ok (.getfield 9, 3) := by decide +kernel
theorem d20_4 : decode cj_38_18 4 = .ok (.iload_n 1, 1) := by decide +kernel
theorem d20_5 : decode cj_38_18 5 = .ok (.aaload, 1) := by decide +kernel
theorem d20_6 : decode cj_38_18 6 = .ok (.areturn, 1) := by decide +kernel
theorem pn_20 : plainName "java/util/ArrayList" = true := by first | (simp [plainName, overriddenIn]; done) | decide +kernel
theorem ef20_RI (m : MethodId) (x0 : Addr) (x1 : Int32) : entryFrame m #[(.ref x0), (.int x1)] 2 = mkF m 0 #[.val (.ref x0), .val (.int x1)] [] := by first | (simp [entryFrame, mkF, argsToLocals, Value.category]; done) | rfl
def QED (Z : State) (a : Addr) (b : Addr) (b_k : ClassId) (j : Int32) (lb : List Value) (x : Addr) (h0 : Heap) (n0 : Nat) (v : Option Value) (h : Heap) (L : List Loc) : Prop := v = some (.ref x) ∧ Fr n0 L ∧ h = h0
set_option maxRecDepth 65536 in
set_option maxHeartbeats 40000000 in
theorem rmED (l : Launch) (Z : State) (a0 : Array Value) (hw : HW a0 Z) (ws : List Jvm.Cond) (a : Addr) (b : Addr) (b_k : ClassId) (j : Int32) (lb : List Value) (x : Addr) (h0 : Heap) (n0 : Nat) (Z0 : n0 ≤ h0.size) (F_e : Fld Z h0 a aL "elementData" lO (.ref b)) (V_b : Arv Z h0 b b_k (.object "java/lang/Object") (10 : Int32) lb .null) (h10 : ¬ j < 0 ∧ j < (10 : Int32)) (hxj : lb.getD j.toNatClampNeg .null = .ref x) :
    MetFree l M14 (head1 (Jvm.Cond.code M14 jdk_38_method_18_code 2 (some (.object "java/lang/Object")) :: ws) R0_0_0_0) (fun ar UU => ar = #[(.ref a), (.int j)] ∧ Z.Warmed39 UU.vm ∧ UU.heap = h0) (fun _ _ _ _ _ => True) (fun _ UU oo UU' => ∃ vv LL, oo = .returned vv ∧ QED Z a b b_k j lb x h0 n0 vv UU'.heap LL ∧ FrameEnd UU oo UU' LL R0_0_0_0.cells R0_0_0_0.slots) := by
 refine MetFree.of_bodySF (plainFor_of_name pn_20) hisR ?_
 intro p e s m args below meth c s₁ Bd hml0 hP hK
 obtain ⟨rfl, hZ, hh⟩ := hP
 have hx := Bd.exec
 have hby := Bd.bytes
 have hml : c.maxLocals = 2 := hml0
 have hown : s.vm.findClass "java/util/ArrayList" = some m.cls := findClass_of_methodNamed Bd.named
 have hnm := (name_of_methodNamed Bd.named Bd.method).1
 have X0 : Stand p l e R0_0_0_0 s m #[(.ref a), (.int j)] below meth c s₁ [] 0 0 := Stand.of_body Bd
 have e0 : s₁.heap = h0 := by rw [← hh, Bd.state]; rfl
 have N0 := Fr.nil n0
 have KC0 : Keep h0 h0 [] := Keep.refl h0 []
 have pre0 : ∀ tgt, Steps p.tables e below (s₁.setTop (mkF m 0 #[.val (.ref a), .val (.int j)] [])) tgt → Steps p.tables e below (s₁.setTop (entryFrame m #[(.ref a), (.int j)] 2)) tgt := fun tgt kk => castTop (ef20_RI m (a) (j)) kk
 generalize hI : s₁.setTop (entryFrame m #[(.ref a), (.int j)] 2) = I0 at pre0 ⊢
 obtain ⟨T1, X1, e1, st1⟩ := getF X0 hx hZ hown (host := "") (Or.inl (tw45 hw)) Via.refl e0 F_e (g := (mkF m 1 #[.val (.ref a), .val (.int j)] [(.ref a)])) rfl rfl (hb hby d20_1)
 obtain ⟨cl2, Ar2, aq2, aS2, aN2, aH2, aG2⟩ := id V_b
 have hin3 : ¬ (j < 0 ∨ cl2.slots.size ≤ (j).toNatClampNeg) := inb_of aS2 h10
 have hat3 : cl2.slots[(j).toNatClampNeg]? = some (.ref x) := Has.at aH2 hin3 hxj
 obtain ⟨fs, hr, hrun, hended, hW, hsame⟩ := X1.leave (v := some (.ref x)) (fun h => by rw [Bd.returns] at h; cases h)
 refine ⟨_, _, pre0 _ ?_, hrun, hended, _, _, rfl, ?_, ⟨_, rfl⟩, hW, hsame.mono (by decide) (by decide)⟩
 ·skip
  refine XS.aloadN X0.here hx rfl (hb hby d20_0) rfl rfl ?_
  refine st1 _ ?_
  refine XS.iloadN X1.here hx rfl (hb hby d20_4) rfl ?_
  refine X1.aaload hx (j := j) (v := (.ref x)) (by rw [e1]; exact Ar2.1) (State.isArrayOf_alike hZ.alike Ar2.2.1) rfl Ar2.2.2 hin3 hat3 (g := (mkF m 5 #[.val (.ref a), .val (.int j)] [(.int j), (.ref b)])) rfl rfl (hb hby d20_5) _ ?_
  exact retOut X1 hx Bd.returns rfl (Or.inr (Or.inr (Or.inr (Or.inr ⟨rfl, rfl, rfl⟩)))) (hb hby d20_6) hr
 ·show QED Z a b b_k j lb x h0 n0 _ T1.heap _
  rw [e1]
  exact ⟨rfl, N0, rfl⟩
theorem d17_0 : decode cj_38_20 0 = .ok (.iload_n 1, 1) := by decide +kernel
theorem d17_1 : decode cj_38_20 1 = .ok (.aload_n 0, 1) := by decide +kernel
theorem d17_2 : decode cj_38_20 2 = .ok (.getfield 48, 3) := by decide +kernel
theorem d17_5 : decode cj_38_20 5 = .ok (.invokestatic 118, 3) := by decide +kernel
theorem d17_8 : decode cj_38_20 8 = .ok (.pop, 1) := by decide +kernel
theorem d17_9 : decode cj_38_20 9 = .ok (.aload_n 0, 1) := by decide +kernel
theorem d17_10 : decode cj_38_20 10 = .ok (.iload_n 1, 1) := by decide +kernel
theorem d17_11 : decode cj_38_20 11 = .ok (.invokevirtual 123, 3) := by decide +kernel
theorem d17_14 : decode cj_38_20 14 = .ok (.areturn, 1) := by decide +kernel
theorem pn_17 : plainName "java/util/ArrayList" = true := by first | (simp [plainName, overriddenIn]; done) | decide +kernel
theorem pd__I_Ljava_lang_Object_ : parseMethodDescriptor "(I)Ljava/lang/Object;" = some ⟨[.int], some (.object "java/lang/Object")⟩ := by decide +kernel
theorem ef17_RI (m : MethodId) (x0 : Addr) (x1 : Int32) : entryFrame m #[(.ref x0), (.int x1)] 2 = mkF m 0 #[.val (.ref x0), .val (.int x1)] [] := by first | (simp [entryFrame, mkF, argsToLocals, Value.category]; done) | rfl
def QGt (Z : State) (a : Addr) (b : Addr) (b_k : ClassId) (j : Int32) (lb : List Value) (x : Addr) (k : Int32) (h0 : Heap) (n0 : Nat) (v : Option Value) (h : Heap) (L : List Loc) : Prop := v = some (.ref x) ∧ Fr n0 L ∧ h = h0
set_option maxRecDepth 65536 in
set_option maxHeartbeats 40000000 in
theorem rmGt (l : Launch) (Z : State) (a0 : Array Value) (hw : HW a0 Z) (ws : List Jvm.Cond) (a : Addr) (b : Addr) (b_k : ClassId) (j : Int32) (lb : List Value) (x : Addr) (k : Int32) (h0 : Heap) (n0 : Nat) (Z0 : n0 ≤ h0.size) (E_a : Exa Z h0 a aL) (F_s : Fld Z h0 a aL "size" "I" (.int k)) (F_e : Fld Z h0 a aL "elementData" lO (.ref b)) (V_b : Arv Z h0 b b_k (.object "java/lang/Object") (10 : Int32) lb .null) (hj : ¬ j < 0 ∧ j < k) (h10 : ¬ j < 0 ∧ j < (10 : Int32)) (hxj : lb.getD j.toNatClampNeg .null = .ref x) :
    MetFree l M15 (head1 (Jvm.Cond.code M15 jdk_38_method_20_code 2 (some (.object "java/lang/Object")) :: ws) R2_0_0_60) (fun ar UU => ar = #[(.ref a), (.int j)] ∧ Z.Warmed39 UU.vm ∧ UU.heap = h0) (fun _ _ _ _ _ => True) (fun _ UU oo UU' => ∃ vv LL, oo = .returned vv ∧ QGt Z a b b_k j lb x k h0 n0 vv UU'.heap LL ∧ FrameEnd UU oo UU' LL R2_0_0_60.cells R2_0_0_60.slots) := by
 refine MetFree.of_bodySF (plainFor_of_name pn_17) hisR ?_
 intro p e s m args below meth c s₁ Bd hml0 hP hK
 obtain ⟨rfl, hZ, hh⟩ := hP
 have hx := Bd.exec
 have hby := Bd.bytes
 have hml : c.maxLocals = 2 := hml0
 have hown : s.vm.findClass "java/util/ArrayList" = some m.cls := findClass_of_methodNamed Bd.named
 have hnm := (name_of_methodNamed Bd.named Bd.method).1
 have X0 : Stand p l e R2_0_0_60 s m #[(.ref a), (.int j)] below meth c s₁ [] 0 0 := Stand.of_body Bd
 have e0 : s₁.heap = h0 := by rw [← hh, Bd.state]; rfl
 have N0 := Fr.nil n0
 have KC0 : Keep h0 h0 [] := Keep.refl h0 []
 have pre0 : ∀ tgt, Steps p.tables e below (s₁.setTop (mkF m 0 #[.val (.ref a), .val (.int j)] [])) tgt → Steps p.tables e below (s₁.setTop (entryFrame m #[(.ref a), (.int j)] 2)) tgt := fun tgt kk => castTop (ef17_RI m (a) (j)) kk
 generalize hI : s₁.setTop (entryFrame m #[(.ref a), (.int j)] 2) = I0 at pre0 ⊢
 obtain ⟨T1, X1, e1, st1⟩ := getF X0 hx hZ hown (host := "") (Or.inl (tw56 hw)) Via.refl e0 F_s (g := (mkF m 2 #[.val (.ref a), .val (.int j)] [(.ref a), (.int j)])) rfl rfl (hb hby d17_2)
 obtain ⟨_, _, ⟨T2, L2, k2, n2⟩, -, X2, ⟨Lc2, hQ2, l2, y2, z2⟩, st2⟩ := Jvm.LawKit.callS X1 hx (y := M13) hown (mvT hZ (tw128 hw)) (mvT hZ (tw129 hw)) (mvT hZ (tw130 hw)) (mvT hZ (tw131 hw)) (by decide) (backOf (W := 0) (rmOc l Z a0 hw [] j k h0 n0 Z0 hj) hZ (tw131 hw) (tw130 hw) (by decide) (by decide)) (g := (mkF m 5 #[.val (.ref a), .val (.int j)] [(.int k), (.int j)])) rfl (by rw [hml]; rfl) (argsL := [(.int j), (.int k)]) (rest := []) (lenOf pd__II_I rfl) rfl (own_mr rfl) (hb hby d17_5) (fun _ _ => ⟨rfl, e1, (by decide : 0 + 0 ≤ _), (by decide : 0 + 0 ≤ _)⟩)
 dsimp only [Pt.U, Pt.locs, Pt.cells, Pt.slots] at X2 l2 y2 z2 st2 hQ2
 rw [l2, y2, z2] at X2
 obtain ⟨rfl, N2q, hh2⟩ := hQ2
 have N2 := Fr.app N0 N2q
 obtain ⟨cq3, kq3, q3a, q3b, q3c⟩ := isOf hZ hh2 E_a
 obtain ⟨_, _, ⟨T3, L3, k3, n3⟩, -, X3, ⟨Lc3, hQ3, l3, y3, z3⟩, st3⟩ := X2.virtualBack hx (y := M14) (z := M14) hown (mvT hZ (tw136 hw)) (mvT hZ (tw137 hw)) (notFace_of_selects (args := #[]) (mvT hZ (tw139 hw))) (mvT hZ (tw139 hw)) (mvT hZ (tw138 hw)) (by decide) (backOf (W := 0) (rmED l Z a0 hw [] a b b_k j lb x h0 n0 Z0 F_e V_b h10 hxj) hZ (tw140 hw) (tw25 hw) (by decide) (by decide)) q3a q3c (g := (mkF m 11 #[.val (.ref a), .val (.int j)] [(.int j), (.ref a)])) rfl (by rw [hml]; rfl) (Steps.refl _) (argsL := [(.int j)]) (rest := []) (lenOf pd__I_Ljava_lang_Object_ rfl) rfl (own_mr rfl) (hb hby d17_11) (fun _ _ => ⟨rfl, hh2, (by decide : 0 + 0 ≤ _), (by decide : 0 + 0 ≤ _)⟩)
 dsimp only [Pt.U, Pt.locs, Pt.cells, Pt.slots] at X3 l3 y3 z3 st3 hQ3
 rw [l3, y3, z3] at X3
 obtain ⟨rfl, N3q, hh3⟩ := hQ3
 have N3 := Fr.app N2 N3q
 obtain ⟨fs, hr, hrun, hended, hW, hsame⟩ := X3.leave (v := some (.ref x)) (fun h => by rw [Bd.returns] at h; cases h)
 refine ⟨_, _, pre0 _ ?_, hrun, hended, _, _, rfl, ?_, ⟨_, rfl⟩, hW, hsame.mono (by decide) (by decide)⟩
 ·skip
  refine XS.iloadN X0.here hx rfl (hb hby d17_0) rfl ?_
  refine XS.aloadN X0.here hx rfl (hb hby d17_1) rfl rfl ?_
  refine st1 _ ?_
  refine st2 _ ?_
  refine XS.pop X2.here hx rfl (hb hby d17_8) rfl rfl ?_
  refine XS.aloadN X2.here hx rfl (hb hby d17_9) rfl rfl ?_
  refine XS.iloadN X2.here hx rfl (hb hby d17_10) rfl ?_
  refine st3.trans ?_
  exact retOut X3 hx Bd.returns rfl (Or.inr (Or.inr (Or.inr (Or.inr ⟨rfl, rfl, rfl⟩)))) (hb hby d17_14) hr
 ·show QGt Z a b b_k j lb x k h0 n0 _ T3.heap _
  rw [hh3]
  exact ⟨rfl, N3, rfl⟩
theorem d1_30 : decode cp_37_1 30 = .ok (.iload_n 3, 1) := by decide +kernel
theorem d1_31 : decode cp_37_1 31 = .ok (.aload_n 1, 1) := by decide +kernel
theorem d1_32 : decode cp_37_1 32 = .ok (.arraylength, 1) := by decide +kernel
theorem d1_33 : decode cp_37_1 33 = .ok (.if_icmp .ge 145, 3) := by decide +kernel
theorem d1_36 : decode cp_37_1 36 = .ok (.aload_n 1, 1) := by decide +kernel
theorem d1_37 : decode cp_37_1 37 = .ok (.iload_n 3, 1) := by decide +kernel
theorem d1_38 : decode cp_37_1 38 = .ok (.daload, 1) := by decide +kernel
theorem d1_39 : decode cp_37_1 39 = .ok (.invokestatic 16, 3) := by decide +kernel
theorem d1_42 : decode cp_37_1 42 = .ok (.ifCond .eq 12, 3) := by decide +kernel
theorem d1_45 : decode cp_37_1 45 = .ok (.aload_n 2, 1) := by decide +kernel
theorem d1_46 : decode cp_37_1 46 = .ok (.iload_n 3, 1) := by decide +kernel
theorem d1_47 : decode cp_37_1 47 = .ok (.daload, 1) := by decide +kernel
theorem d1_48 : decode cp_37_1 48 = .ok (.invokestatic 16, 3) := by decide +kernel
theorem d1_51 : decode cp_37_1 51 = .ok (.ifCond .ne 17, 3) := by decide +kernel
theorem d1_68 : decode cp_37_1 68 = .ok (.iload_n 3, 1) := by decide +kernel
theorem d1_69 : decode cp_37_1 69 = .ok (.ifCond .ne 27, 3) := by decide +kernel
theorem d1_72 : decode cp_37_1 72 = .ok (.aload_n 2, 1) := by decide +kernel
theorem d1_73 : decode cp_37_1 73 = .ok (.iload_n 3, 1) := by decide +kernel
theorem d1_74 : decode cp_37_1 74 = .ok (.daload, 1) := by decide +kernel
theorem d1_75 : decode cp_37_1 75 = .ok (.dconst 0, 1) := by decide +kernel
theorem d1_76 : decode cp_37_1 76 = .ok (.dcmp .g, 1) := by decide +kernel
theorem d1_77 : decode cp_37_1 77 = .ok (.ifCond .ge 19, 3) := by decide +kernel
theorem d1_96 : decode cp_37_1 96 = .ok (.iload_n 3, 1) := by decide +kernel
theorem d1_97 : decode cp_37_1 97 = .ok (.ifCond .le 37, 3) := by decide +kernel
theorem d1_134 : decode cp_37_1 134 = .ok (.iload_n 3, 1) := by decide +kernel
theorem d1_135 : decode cp_37_1 135 = .ok (.ifCond .le 37, 3) := by decide +kernel
theorem d1_172 : decode cp_37_1 172 = .ok (.iinc 3 1, 3) := by decide +kernel
theorem d1_175 : decode cp_37_1 175 = .ok (.goto (-145), 3) := by decide +kernel
theorem pd__D_Z : parseMethodDescriptor "(D)Z" = some ⟨[.double], some .boolean⟩ := by decide +kernel
set_option maxRecDepth 65536 in
set_option maxHeartbeats 40000000 in
theorem sV0 {p : Program} {l : Launch} {e : Env} {s : State} {m : MethodId} {below : List Frame} {meth : Method} {c : Code} {T0 : State} {lo0 : List Loc} {Z : State} {a0 : Array Value} (hw : HW a0 Z) (hx : p.tables.exec = Jvm.exec) (hby : c.code = prog_37_method_1_code) (hml : c.maxLocals = 7) (hZ : Z.Warmed39 s.vm) (hown : s.vm.findClass cF = some m.cls) (hnm : meth.name = "<init>") (a : Addr) (ti : Addr) (ti_k : ClassId) (va : Addr) (va_k : ClassId) (ln : Int32) (lt : List Value) (lv : List Value) (ta : Int64) (tb : Int64) {h0 hs : Heap} {n0 : Nat} (X0 : Stand p l e R5_7_28_108 s m #[(.ref a), (.ref ti), (.ref va)] below meth c T0 lo0 0 0) (N0 : Fr n0 lo0) (e0 : T0.heap = hs) (Z0 : n0 ≤ hs.size) (KC0 : Keep h0 hs [a]) (V_ti : Arv Z hs ti ti_k .double ln lt dZ) (V_va : Arv Z hs va va_k .double ln lv dZ) (hin : ¬ (0 : Int32) < 0 ∧ (0 : Int32) < ln) (hta : lt.getD ((0 : Int32)).toNatClampNeg dZ = dV ta) (htb : lv.getD ((0 : Int32)).toNatClampNeg dZ = dV tb) (b_ta : B53 ta) (b_tb : B53 tb) (ov : ¬ tb < (0 : Int64)) :
    ∃ (T1 : State) (lo1 : List Loc), Stand p l e R5_7_28_108 s m #[(.ref a), (.ref ti), (.ref va)] below meth c T1 lo1 0 0 ∧ Fr n0 lo1 ∧ T1.heap = hs ∧ Pr p e below (T0.setTop (mkF m 30 #[.val (.ref a), .val (.ref ti), .val (.ref va), .val (.int (0 : Int32)), .unset, .unset, .unset] [])) T1 (mkF m 30 #[.val (.ref a), .val (.ref ti), .val (.ref va), .val (.int (1 : Int32)), .unset, .unset, .unset] []) := by
 have pre0 : Pr p e below (T0.setTop (mkF m 30 #[.val (.ref a), .val (.ref ti), .val (.ref va), .val (.int (0 : Int32)), .unset, .unset, .unset] [])) T0 (mkF m 30 #[.val (.ref a), .val (.ref ti), .val (.ref va), .val (.int (0 : Int32)), .unset, .unset, .unset] []) := fun _ kk => kk
 generalize hI : T0.setTop (mkF m 30 #[.val (.ref a), .val (.ref ti), .val (.ref va), .val (.int (0 : Int32)), .unset, .unset, .unset] []) = I0 at pre0 ⊢
 obtain ⟨cl1, Ar1, aq1, aS1, aN1, aH1, aG1⟩ := id V_ti
 have hk2 : (0 : Int32) < ln := hin.2
 obtain ⟨cl3, Ar3, aq3, aS3, aN3, aH3, aG3⟩ := id V_ti
 have hin4 : ¬ ((0 : Int32) < 0 ∨ cl3.slots.size ≤ ((0 : Int32)).toNatClampNeg) := inb_of aS3 hin
 have hat4 : cl3.slots[((0 : Int32)).toNatClampNeg]? = some (dV ta) := Has.at aH3 hin4 hta
 obtain ⟨_, _, ⟨T5, L5, k5, n5⟩, -, X5, ⟨Lc5, hQ5, l5, y5, z5⟩, st5⟩ := Jvm.LawKit.callS X0 hx (y := M0) hown (mvT hZ (tw73 hw)) (mvT hZ (tw74 hw)) (mvT hZ (tw75 hw)) (mvT hZ (tw76 hw)) (by decide) (backOf (W := 0) (rmFin l Z a0 hw [] ta hs n0 Z0) hZ (tw76 hw) (tw75 hw) (by decide) (by decide)) (g := (mkF m 39 #[.val (.ref a), .val (.ref ti), .val (.ref va), .val (.int (0 : Int32)), .unset, .unset, .unset] [(dV ta)])) rfl (by rw [hml]; rfl) (argsL := [(dV ta)]) (rest := []) (lenOf pd__D_Z rfl) rfl (own_mr rfl) (hb hby d1_39) (fun _ _ => ⟨rfl, e0, (by decide : 0 + 0 ≤ _), (by decide : 0 + 0 ≤ _)⟩)
 dsimp only [Pt.U, Pt.locs, Pt.cells, Pt.slots] at X5 l5 y5 z5 st5 hQ5
 rw [l5, y5, z5] at X5
 obtain ⟨rfl, N5q, hh5⟩ := hQ5
 have N5 := Fr.app N0 N5q
 obtain ⟨cl6, Ar6, aq6, aS6, aN6, aH6, aG6⟩ := id V_va
 have hin7 : ¬ ((0 : Int32) < 0 ∨ cl6.slots.size ≤ ((0 : Int32)).toNatClampNeg) := inb_of aS6 hin
 have hat7 : cl6.slots[((0 : Int32)).toNatClampNeg]? = some (dV tb) := Has.at aH6 hin7 htb
 obtain ⟨_, _, ⟨T8, L8, k8, n8⟩, -, X8, ⟨Lc8, hQ8, l8, y8, z8⟩, st8⟩ := Jvm.LawKit.callS X5 hx (y := M0) hown (mvT hZ (tw73 hw)) (mvT hZ (tw74 hw)) (mvT hZ (tw75 hw)) (mvT hZ (tw76 hw)) (by decide) (backOf (W := 0) (rmFin l Z a0 hw [] tb hs n0 Z0) hZ (tw76 hw) (tw75 hw) (by decide) (by decide)) (g := (mkF m 48 #[.val (.ref a), .val (.ref ti), .val (.ref va), .val (.int (0 : Int32)), .unset, .unset, .unset] [(dV tb)])) rfl (by rw [hml]; rfl) (argsL := [(dV tb)]) (rest := []) (lenOf pd__D_Z rfl) rfl (own_mr rfl) (hb hby d1_48) (fun _ _ => ⟨rfl, hh5, (by decide : 0 + 0 ≤ _), (by decide : 0 + 0 ≤ _)⟩)
 dsimp only [Pt.U, Pt.locs, Pt.cells, Pt.slots] at X8 l8 y8 z8 st8 hQ8
 rw [l8, y8, z8] at X8
 obtain ⟨rfl, N8q, hh8⟩ := hQ8
 have N8 := Fr.app N5 N8q
 obtain ⟨cl9, Ar9, aq9, aS9, aN9, aH9, aG9⟩ := id V_va
 have hin10 : ¬ ((0 : Int32) < 0 ∨ cl9.slots.size ≤ ((0 : Int32)).toNatClampNeg) := inb_of aS9 hin
 have hat10 : cl9.slots[((0 : Int32)).toNatClampNeg]? = some (dV tb) := Has.at aH9 hin10 htb
 have hk11 : ¬ (tb < (0 : Int64)) := ov
 have pre12 : Pr p e below I0 T8 (mkF m 30 #[.val (.ref a), .val (.ref ti), .val (.ref va), .val (.int (1 : Int32)), .unset, .unset, .unset] []) := by
  intro tg kk
  refine pre0 tg ?_
  refine XS.iloadN X0.here hx rfl (hb hby d1_30) rfl ?_
  refine XS.aloadN X0.here hx rfl (hb hby d1_31) rfl rfl ?_
  refine X0.arraylength hx (by rw [e0]; exact Ar1.1) (State.isArrayOf_alike hZ.alike Ar1.2.1) (g := (mkF m 32 #[.val (.ref a), .val (.ref ti), .val (.ref va), .val (.int (0 : Int32)), .unset, .unset, .unset] [(.ref ti), (.int (0 : Int32))])) rfl rfl (hb hby d1_32) _ ?_
  rw [len_of aS1 aN1]
  refine XS.icmpNo X0.here hx rfl (hb hby d1_33) rfl (XT.ii_ge_f hk2) ?_
  refine XS.aloadN X0.here hx rfl (hb hby d1_36) rfl rfl ?_
  refine XS.iloadN X0.here hx rfl (hb hby d1_37) rfl ?_
  refine X0.daload hx (j := (0 : Int32)) (v := (dV ta)) (by rw [e0]; exact Ar3.1) (State.isArrayOf_alike hZ.alike Ar3.2.1) Ar3.2.2 hin4 hat4 (g := (mkF m 38 #[.val (.ref a), .val (.ref ti), .val (.ref va), .val (.int (0 : Int32)), .unset, .unset, .unset] [(.int (0 : Int32)), (.ref ti)])) rfl rfl (hb hby d1_38) _ ?_
  refine st5 _ ?_
  refine XS.ifNo X5.here hx rfl (hb hby d1_42) rfl (XT.i0_eq_f (by decide)) ?_
  refine XS.aloadN X5.here hx rfl (hb hby d1_45) rfl rfl ?_
  refine XS.iloadN X5.here hx rfl (hb hby d1_46) rfl ?_
  refine X5.daload hx (j := (0 : Int32)) (v := (dV tb)) (by rw [hh5]; exact Ar6.1) (State.isArrayOf_alike hZ.alike Ar6.2.1) Ar6.2.2 hin7 hat7 (g := (mkF m 47 #[.val (.ref a), .val (.ref ti), .val (.ref va), .val (.int (0 : Int32)), .unset, .unset, .unset] [(.int (0 : Int32)), (.ref va)])) rfl rfl (hb hby d1_47) _ ?_
  refine st8 _ ?_
  refine XS.ifYes X8.here hx rfl (pc0 := 51) (pc' := 68) rfl (hb hby d1_51) rfl (XT.i0_ne_t (by decide)) (by decide) (by decide) ?_
  refine XS.iloadN X8.here hx rfl (hb hby d1_68) rfl ?_
  refine XS.ifNo X8.here hx rfl (hb hby d1_69) rfl (XT.i0_ne_f (by decide)) ?_
  refine XS.aloadN X8.here hx rfl (hb hby d1_72) rfl rfl ?_
  refine XS.iloadN X8.here hx rfl (hb hby d1_73) rfl ?_
  refine X8.daload hx (j := (0 : Int32)) (v := (dV tb)) (by rw [hh8]; exact Ar9.1) (State.isArrayOf_alike hZ.alike Ar9.2.1) Ar9.2.2 hin10 hat10 (g := (mkF m 74 #[.val (.ref a), .val (.ref ti), .val (.ref va), .val (.int (0 : Int32)), .unset, .unset, .unset] [(.int (0 : Int32)), (.ref va)])) rfl rfl (hb hby d1_74) _ ?_
  refine XS.dconst0 X8.here hx rfl (v := FP.l2d (0 : Int64)) (hb hby d1_75) own_dc0 ?_
  refine XS.dcmpS X8.here hx rfl (hb hby d1_76) rfl (dcmpV_w b_tb own_b0 _) ?_
  refine XS.ifYes X8.here hx rfl (pc0 := 77) (pc' := 96) rfl (hb hby d1_77) rfl (XT.ll_ge_t hk11) (by decide) (by decide) ?_
  refine XS.iloadN X8.here hx rfl (hb hby d1_96) rfl ?_
  refine XS.ifYes X8.here hx rfl (pc0 := 97) (pc' := 134) rfl (hb hby d1_97) rfl (XT.i0_le_t (by decide)) (by decide) (by decide) ?_
  refine XS.iloadN X8.here hx rfl (hb hby d1_134) rfl ?_
  refine XS.ifYes X8.here hx rfl (pc0 := 135) (pc' := 172) rfl (hb hby d1_135) rfl (XT.i0_le_t (by decide)) (by decide) (by decide) ?_
  refine XS.iinc X8.here hx rfl (hb hby d1_172) rfl (l' := #[.val (.ref a), .val (.ref ti), .val (.ref va), .val (.int (1 : Int32)), .unset, .unset, .unset]) rfl ?_
  refine XS.goto X8.here hx rfl (pc0 := 175) (pc' := 30) rfl (hb hby d1_175) (by decide) (by decide) ?_
  exact kk
 exact ⟨T8, _, X8, N8, hh8, pre12⟩
theorem d1_100 : decode cp_37_1 100 = .ok (.aload_n 1, 1) := by decide +kernel
theorem d1_101 : decode cp_37_1 101 = .ok (.iload_n 3, 1) := by decide +kernel
theorem d1_102 : decode cp_37_1 102 = .ok (.daload, 1) := by decide +kernel
theorem d1_103 : decode cp_37_1 103 = .ok (.aload_n 1, 1) := by decide +kernel
theorem d1_104 : decode cp_37_1 104 = .ok (.iload_n 3, 1) := by decide +kernel
theorem d1_105 : decode cp_37_1 105 = .ok (.iconst 1, 1) := by decide +kernel
theorem d1_106 : decode cp_37_1 106 = .ok (.isub, 1) := by decide +kernel
theorem d1_107 : decode cp_37_1 107 = .ok (.daload, 1) := by decide +kernel
theorem d1_108 : decode cp_37_1 108 = .ok (.dcmp .g, 1) := by decide +kernel
theorem d1_109 : decode cp_37_1 109 = .ok (.ifCond .ge 25, 3) := by decide +kernel
theorem d1_138 : decode cp_37_1 138 = .ok (.aload_n 2, 1) := by decide +kernel
theorem d1_139 : decode cp_37_1 139 = .ok (.iload_n 3, 1) := by decide +kernel
theorem d1_140 : decode cp_37_1 140 = .ok (.daload, 1) := by decide +kernel
theorem d1_141 : decode cp_37_1 141 = .ok (.aload_n 2, 1) := by decide +kernel
theorem d1_142 : decode cp_37_1 142 = .ok (.iload_n 3, 1) := by decide +kernel
theorem d1_143 : decode cp_37_1 143 = .ok (.iconst 1, 1) := by decide +kernel
theorem d1_144 : decode cp_37_1 144 = .ok (.isub, 1) := by decide +kernel
theorem d1_145 : decode cp_37_1 145 = .ok (.daload, 1) := by decide +kernel
theorem d1_146 : decode cp_37_1 146 = .ok (.dcmp .g, 1) := by decide +kernel
theorem d1_147 : decode cp_37_1 147 = .ok (.ifCond .ge 25, 3) := by decide +kernel
set_option maxRecDepth 65536 in
set_option maxHeartbeats 40000000 in
theorem sV1 {p : Program} {l : Launch} {e : Env} {s : State} {m : MethodId} {below : List Frame} {meth : Method} {c : Code} {T0 : State} {lo0 : List Loc} {Z : State} {a0 : Array Value} (hw : HW a0 Z) (hx : p.tables.exec = Jvm.exec) (hby : c.code = prog_37_method_1_code) (hml : c.maxLocals = 7) (hZ : Z.Warmed39 s.vm) (hown : s.vm.findClass cF = some m.cls) (hnm : meth.name = "<init>") (a : Addr) (ti : Addr) (ti_k : ClassId) (va : Addr) (va_k : ClassId) (ln : Int32) (lt : List Value) (lv : List Value) (ix : Int32) (iy : Int32) (ta0 : Int64) (ta1 : Int64) (tb0 : Int64) (tb1 : Int64) {h0 hs : Heap} {n0 : Nat} (X0 : Stand p l e R5_7_28_108 s m #[(.ref a), (.ref ti), (.ref va)] below meth c T0 lo0 0 0) (N0 : Fr n0 lo0) (e0 : T0.heap = hs) (Z0 : n0 ≤ hs.size) (KC0 : Keep h0 hs [a]) (V_ti : Arv Z hs ti ti_k .double ln lt dZ) (V_va : Arv Z hs va va_k .double ln lv dZ) (hin : ¬ ix < 0 ∧ ix < ln) (hpr : ¬ (ix - (1 : Int32)) < 0 ∧ (ix - (1 : Int32)) < ln) (hnz : ¬ ix = (0 : Int32)) (hpos : (0 : Int32) < ix) (hxy : ix + (1 : Int32) = iy) (hta0 : lt.getD ((ix - (1 : Int32))).toNatClampNeg dZ = dV ta0) (hta1 : lt.getD (ix).toNatClampNeg dZ = dV ta1) (htb0 : lv.getD ((ix - (1 : Int32))).toNatClampNeg dZ = dV tb0) (htb1 : lv.getD (ix).toNatClampNeg dZ = dV tb1) (b_ta0 : B53 ta0) (b_ta1 : B53 ta1) (b_tb0 : B53 tb0) (b_tb1 : B53 tb1) (ot : ¬ ta1 < ta0) (ov : ¬ tb1 < tb0) :
    ∃ (T1 : State) (lo1 : List Loc), Stand p l e R5_7_28_108 s m #[(.ref a), (.ref ti), (.ref va)] below meth c T1 lo1 0 0 ∧ Fr n0 lo1 ∧ T1.heap = hs ∧ Pr p e below (T0.setTop (mkF m 30 #[.val (.ref a), .val (.ref ti), .val (.ref va), .val (.int ix), .unset, .unset, .unset] [])) T1 (mkF m 30 #[.val (.ref a), .val (.ref ti), .val (.ref va), .val (.int iy), .unset, .unset, .unset] []) := by
 have pre0 : Pr p e below (T0.setTop (mkF m 30 #[.val (.ref a), .val (.ref ti), .val (.ref va), .val (.int ix), .unset, .unset, .unset] [])) T0 (mkF m 30 #[.val (.ref a), .val (.ref ti), .val (.ref va), .val (.int ix), .unset, .unset, .unset] []) := fun _ kk => kk
 generalize hI : T0.setTop (mkF m 30 #[.val (.ref a), .val (.ref ti), .val (.ref va), .val (.int ix), .unset, .unset, .unset] []) = I0 at pre0 ⊢
 obtain ⟨cl1, Ar1, aq1, aS1, aN1, aH1, aG1⟩ := id V_ti
 have hk2 : ix < ln := hin.2
 obtain ⟨cl3, Ar3, aq3, aS3, aN3, aH3, aG3⟩ := id V_ti
 have hin4 : ¬ (ix < 0 ∨ cl3.slots.size ≤ (ix).toNatClampNeg) := inb_of aS3 hin
 have hat4 : cl3.slots[(ix).toNatClampNeg]? = some (dV ta1) := Has.at aH3 hin4 hta1
 obtain ⟨_, _, ⟨T5, L5, k5, n5⟩, -, X5, ⟨Lc5, hQ5, l5, y5, z5⟩, st5⟩ := Jvm.LawKit.callS X0 hx (y := M0) hown (mvT hZ (tw73 hw)) (mvT hZ (tw74 hw)) (mvT hZ (tw75 hw)) (mvT hZ (tw76 hw)) (by decide) (backOf (W := 0) (rmFin l Z a0 hw [] ta1 hs n0 Z0) hZ (tw76 hw) (tw75 hw) (by decide) (by decide)) (g := (mkF m 39 #[.val (.ref a), .val (.ref ti), .val (.ref va), .val (.int ix), .unset, .unset, .unset] [(dV ta1)])) rfl (by rw [hml]; rfl) (argsL := [(dV ta1)]) (rest := []) (lenOf pd__D_Z rfl) rfl (own_mr rfl) (hb hby d1_39) (fun _ _ => ⟨rfl, e0, (by decide : 0 + 0 ≤ _), (by decide : 0 + 0 ≤ _)⟩)
 dsimp only [Pt.U, Pt.locs, Pt.cells, Pt.slots] at X5 l5 y5 z5 st5 hQ5
 rw [l5, y5, z5] at X5
 obtain ⟨rfl, N5q, hh5⟩ := hQ5
 have N5 := Fr.app N0 N5q
 obtain ⟨cl6, Ar6, aq6, aS6, aN6, aH6, aG6⟩ := id V_va
 have hin7 : ¬ (ix < 0 ∨ cl6.slots.size ≤ (ix).toNatClampNeg) := inb_of aS6 hin
 have hat7 : cl6.slots[(ix).toNatClampNeg]? = some (dV tb1) := Has.at aH6 hin7 htb1
 obtain ⟨_, _, ⟨T8, L8, k8, n8⟩, -, X8, ⟨Lc8, hQ8, l8, y8, z8⟩, st8⟩ := Jvm.LawKit.callS X5 hx (y := M0) hown (mvT hZ (tw73 hw)) (mvT hZ (tw74 hw)) (mvT hZ (tw75 hw)) (mvT hZ (tw76 hw)) (by decide) (backOf (W := 0) (rmFin l Z a0 hw [] tb1 hs n0 Z0) hZ (tw76 hw) (tw75 hw) (by decide) (by decide)) (g := (mkF m 48 #[.val (.ref a), .val (.ref ti), .val (.ref va), .val (.int ix), .unset, .unset, .unset] [(dV tb1)])) rfl (by rw [hml]; rfl) (argsL := [(dV tb1)]) (rest := []) (lenOf pd__D_Z rfl) rfl (own_mr rfl) (hb hby d1_48) (fun _ _ => ⟨rfl, hh5, (by decide : 0 + 0 ≤ _), (by decide : 0 + 0 ≤ _)⟩)
 dsimp only [Pt.U, Pt.locs, Pt.cells, Pt.slots] at X8 l8 y8 z8 st8 hQ8
 rw [l8, y8, z8] at X8
 obtain ⟨rfl, N8q, hh8⟩ := hQ8
 have N8 := Fr.app N5 N8q
 have hk9 : ¬ (ix = (0 : Int32)) := hnz
 have hk10 : (0 : Int32) < ix := hpos
 obtain ⟨cl11, Ar11, aq11, aS11, aN11, aH11, aG11⟩ := id V_ti
 have hin12 : ¬ (ix < 0 ∨ cl11.slots.size ≤ (ix).toNatClampNeg) := inb_of aS11 hin
 have hat12 : cl11.slots[(ix).toNatClampNeg]? = some (dV ta1) := Has.at aH11 hin12 hta1
 obtain ⟨cl13, Ar13, aq13, aS13, aN13, aH13, aG13⟩ := id V_ti
 have hin14 : ¬ ((ix - (1 : Int32)) < 0 ∨ cl13.slots.size ≤ ((ix - (1 : Int32))).toNatClampNeg) := inb_of aS13 hpr
 have hat14 : cl13.slots[((ix - (1 : Int32))).toNatClampNeg]? = some (dV ta0) := Has.at aH13 hin14 hta0
 have hk15 : ¬ (ta1 < ta0) := ot
 have hk16 : (0 : Int32) < ix := hpos
 obtain ⟨cl17, Ar17, aq17, aS17, aN17, aH17, aG17⟩ := id V_va
 have hin18 : ¬ (ix < 0 ∨ cl17.slots.size ≤ (ix).toNatClampNeg) := inb_of aS17 hin
 have hat18 : cl17.slots[(ix).toNatClampNeg]? = some (dV tb1) := Has.at aH17 hin18 htb1
 obtain ⟨cl19, Ar19, aq19, aS19, aN19, aH19, aG19⟩ := id V_va
 have hin20 : ¬ ((ix - (1 : Int32)) < 0 ∨ cl19.slots.size ≤ ((ix - (1 : Int32))).toNatClampNeg) := inb_of aS19 hpr
 have hat20 : cl19.slots[((ix - (1 : Int32))).toNatClampNeg]? = some (dV tb0) := Has.at aH19 hin20 htb0
 have hk21 : ¬ (tb1 < tb0) := ov
 have pre22 : Pr p e below I0 T8 (mkF m 30 #[.val (.ref a), .val (.ref ti), .val (.ref va), .val (.int (ix + (1 : Int32))), .unset, .unset, .unset] []) := by
  intro tg kk
  refine pre0 tg ?_
  refine XS.iloadN X0.here hx rfl (hb hby d1_30) rfl ?_
  refine XS.aloadN X0.here hx rfl (hb hby d1_31) rfl rfl ?_
  refine X0.arraylength hx (by rw [e0]; exact Ar1.1) (State.isArrayOf_alike hZ.alike Ar1.2.1) (g := (mkF m 32 #[.val (.ref a), .val (.ref ti), .val (.ref va), .val (.int ix), .unset, .unset, .unset] [(.ref ti), (.int ix)])) rfl rfl (hb hby d1_32) _ ?_
  rw [len_of aS1 aN1]
  refine XS.icmpNo X0.here hx rfl (hb hby d1_33) rfl (XT.ii_ge_f hk2) ?_
  refine XS.aloadN X0.here hx rfl (hb hby d1_36) rfl rfl ?_
  refine XS.iloadN X0.here hx rfl (hb hby d1_37) rfl ?_
  refine X0.daload hx (j := ix) (v := (dV ta1)) (by rw [e0]; exact Ar3.1) (State.isArrayOf_alike hZ.alike Ar3.2.1) Ar3.2.2 hin4 hat4 (g := (mkF m 38 #[.val (.ref a), .val (.ref ti), .val (.ref va), .val (.int ix), .unset, .unset, .unset] [(.int ix), (.ref ti)])) rfl rfl (hb hby d1_38) _ ?_
  refine st5 _ ?_
  refine XS.ifNo X5.here hx rfl (hb hby d1_42) rfl (XT.i0_eq_f (by decide)) ?_
  refine XS.aloadN X5.here hx rfl (hb hby d1_45) rfl rfl ?_
  refine XS.iloadN X5.here hx rfl (hb hby d1_46) rfl ?_
  refine X5.daload hx (j := ix) (v := (dV tb1)) (by rw [hh5]; exact Ar6.1) (State.isArrayOf_alike hZ.alike Ar6.2.1) Ar6.2.2 hin7 hat7 (g := (mkF m 47 #[.val (.ref a), .val (.ref ti), .val (.ref va), .val (.int ix), .unset, .unset, .unset] [(.int ix), (.ref va)])) rfl rfl (hb hby d1_47) _ ?_
  refine st8 _ ?_
  refine XS.ifYes X8.here hx rfl (pc0 := 51) (pc' := 68) rfl (hb hby d1_51) rfl (XT.i0_ne_t (by decide)) (by decide) (by decide) ?_
  refine XS.iloadN X8.here hx rfl (hb hby d1_68) rfl ?_
  refine XS.ifYes X8.here hx rfl (pc0 := 69) (pc' := 96) rfl (hb hby d1_69) rfl (XT.i0_ne_t hk9) (by decide) (by decide) ?_
  refine XS.iloadN X8.here hx rfl (hb hby d1_96) rfl ?_
  refine XS.ifNo X8.here hx rfl (hb hby d1_97) rfl (XT.i0_le_f hk10) ?_
  refine XS.aloadN X8.here hx rfl (hb hby d1_100) rfl rfl ?_
  refine XS.iloadN X8.here hx rfl (hb hby d1_101) rfl ?_
  refine X8.daload hx (j := ix) (v := (dV ta1)) (by rw [hh8]; exact Ar11.1) (State.isArrayOf_alike hZ.alike Ar11.2.1) Ar11.2.2 hin12 hat12 (g := (mkF m 102 #[.val (.ref a), .val (.ref ti), .val (.ref va), .val (.int ix), .unset, .unset, .unset] [(.int ix), (.ref ti)])) rfl rfl (hb hby d1_102) _ ?_
  refine XS.aloadN X8.here hx rfl (hb hby d1_103) rfl rfl ?_
  refine XS.iloadN X8.here hx rfl (hb hby d1_104) rfl ?_
  refine XS.iconst X8.here hx rfl (hb hby d1_105) ?_
  refine XS.isub X8.here hx rfl (hb hby d1_106) rfl ?_
  refine X8.daload hx (j := (ix - (1 : Int32))) (v := (dV ta0)) (by rw [hh8]; exact Ar13.1) (State.isArrayOf_alike hZ.alike Ar13.2.1) Ar13.2.2 hin14 hat14 (g := (mkF m 107 #[.val (.ref a), .val (.ref ti), .val (.ref va), .val (.int ix), .unset, .unset, .unset] [(.int (ix - (1 : Int32))), (.ref ti), (dV ta1)])) rfl rfl (hb hby d1_107) _ ?_
  refine XS.dcmpS X8.here hx rfl (hb hby d1_108) rfl (dcmpV_w b_ta1 b_ta0 _) ?_
  refine XS.ifYes X8.here hx rfl (pc0 := 109) (pc' := 134) rfl (hb hby d1_109) rfl (XT.ll_ge_t hk15) (by decide) (by decide) ?_
  refine XS.iloadN X8.here hx rfl (hb hby d1_134) rfl ?_
  refine XS.ifNo X8.here hx rfl (hb hby d1_135) rfl (XT.i0_le_f hk16) ?_
  refine XS.aloadN X8.here hx rfl (hb hby d1_138) rfl rfl ?_
  refine XS.iloadN X8.here hx rfl (hb hby d1_139) rfl ?_
  refine X8.daload hx (j := ix) (v := (dV tb1)) (by rw [hh8]; exact Ar17.1) (State.isArrayOf_alike hZ.alike Ar17.2.1) Ar17.2.2 hin18 hat18 (g := (mkF m 140 #[.val (.ref a), .val (.ref ti), .val (.ref va), .val (.int ix), .unset, .unset, .unset] [(.int ix), (.ref va)])) rfl rfl (hb hby d1_140) _ ?_
  refine XS.aloadN X8.here hx rfl (hb hby d1_141) rfl rfl ?_
  refine XS.iloadN X8.here hx rfl (hb hby d1_142) rfl ?_
  refine XS.iconst X8.here hx rfl (hb hby d1_143) ?_
  refine XS.isub X8.here hx rfl (hb hby d1_144) rfl ?_
  refine X8.daload hx (j := (ix - (1 : Int32))) (v := (dV tb0)) (by rw [hh8]; exact Ar19.1) (State.isArrayOf_alike hZ.alike Ar19.2.1) Ar19.2.2 hin20 hat20 (g := (mkF m 145 #[.val (.ref a), .val (.ref ti), .val (.ref va), .val (.int ix), .unset, .unset, .unset] [(.int (ix - (1 : Int32))), (.ref va), (dV tb1)])) rfl rfl (hb hby d1_145) _ ?_
  refine XS.dcmpS X8.here hx rfl (hb hby d1_146) rfl (dcmpV_w b_tb1 b_tb0 _) ?_
  refine XS.ifYes X8.here hx rfl (pc0 := 147) (pc' := 172) rfl (hb hby d1_147) rfl (XT.ll_ge_t hk21) (by decide) (by decide) ?_
  refine XS.iinc X8.here hx rfl (hb hby d1_172) rfl (l' := #[.val (.ref a), .val (.ref ti), .val (.ref va), .val (.int (ix + (1 : Int32))), .unset, .unset, .unset]) rfl ?_
  refine XS.goto X8.here hx rfl (pc0 := 175) (pc' := 30) rfl (hb hby d1_175) (by decide) (by decide) ?_
  exact kk
 rw [hxy] at pre22
 exact ⟨T8, _, X8, N8, hh8, pre22⟩
theorem d1_178 : decode cp_37_1 178 = .ok (.aload_n 0, 1) := by decide +kernel
theorem d1_179 : decode cp_37_1 179 = .ok (.aload_n 1, 1) := by decide +kernel
theorem d1_180 : decode cp_37_1 180 = .ok (.invokevirtual 32, 3) := by decide +kernel
theorem d1_183 : decode cp_37_1 183 = .ok (.checkcast 33, 3) := by decide +kernel
theorem d1_186 : decode cp_37_1 186 = .ok (.putfield 38, 3) := by decide +kernel
theorem d1_189 : decode cp_37_1 189 = .ok (.aload_n 0, 1) := by decide +kernel
theorem d1_190 : decode cp_37_1 190 = .ok (.aload_n 2, 1) := by decide +kernel
theorem d1_191 : decode cp_37_1 191 = .ok (.invokevirtual 32, 3) := by decide +kernel
theorem d1_194 : decode cp_37_1 194 = .ok (.checkcast 33, 3) := by decide +kernel
theorem d1_197 : decode cp_37_1 197 = .ok (.putfield 43, 3) := by decide +kernel
theorem d1_200 : decode cp_37_1 200 = .ok (.new 46, 3) := by decide +kernel
theorem d1_203 : decode cp_37_1 203 = .ok (.dup, 1) := by decide +kernel
theorem d1_204 : decode cp_37_1 204 = .ok (.invokespecial 48, 3) := by decide +kernel
theorem d1_207 : decode cp_37_1 207 = .ok (.astore_n 3, 1) := by decide +kernel
theorem d1_208 : decode cp_37_1 208 = .ok (.iconst 0, 1) := by decide +kernel
theorem d1_209 : decode cp_37_1 209 = .ok (.istore 4, 2) := by decide +kernel
set_option maxRecDepth 65536 in
set_option maxHeartbeats 40000000 in
theorem sA {p : Program} {l : Launch} {e : Env} {s : State} {m : MethodId} {below : List Frame} {meth : Method} {c : Code} {T0 : State} {lo0 : List Loc} {Z : State} {a0 : Array Value} (hw : HW a0 Z) (hx : p.tables.exec = Jvm.exec) (hby : c.code = prog_37_method_1_code) (hml : c.maxLocals = 7) (hZ : Z.Warmed39 s.vm) (hown : s.vm.findClass cF = some m.cls) (hnm : meth.name = "<init>") (a : Addr) (ti : Addr) (ti_k : ClassId) (va : Addr) (va_k : ClassId) (ln : Int32) (lt : List Value) (lv : List Value) (ix : Int32) (kB : Nat) (aE : Addr) (kE : ClassId) (aC : Addr) (kC : ClassId) (lC : List Value) (i0 : Addr) (i1 : Addr) (i2 : Addr) {h0 hs : Heap} {n0 : Nat} (X0 : Stand p l e R5_7_28_108 s m #[(.ref a), (.ref ti), (.ref va)] below meth c T0 lo0 0 0) (N0 : Fr n0 lo0) (e0 : T0.heap = hs) (Z0 : n0 ≤ hs.size) (KC0 : Keep h0 hs [a]) (E_a : Exa Z hs a cF) (F_times : Fld Z hs a cF "times" "[D" .null) (F_values : Fld Z hs a cF "values" "[D" .null) (F_instants : Fld Z hs a cF "instants" "[D" .null) (F_lefts : Fld Z hs a cF "lefts" "[D" .null) (F_rights : Fld Z hs a cF "rights" "[D" .null) (V_ti : Arv Z hs ti ti_k .double ln lt dZ) (E_ti : Exa Z hs ti "[D") (V_va : Arv Z hs va va_k .double ln lv dZ) (E_va : Exa Z hs va "[D") (EN : EnvJ Z kB hs aE kE aC kC lC i0 i1 i2) (hkB : kB ≤ h0.size) (k_a : kB ≤ a) (g_a : n0 ≤ a) (ne_ti_a : ti ≠ a) (ne_va_a : va ≠ a) (hln : ln.toNatClampNeg ≤ 3) :
    ∃ (T1 : State) (lo1 : List Loc) (h1 : Heap) (al : Addr), Stand p l e R5_7_28_108 s m #[(.ref a), (.ref ti), (.ref va)] below meth c T1 lo1 3 9 ∧ Fr n0 lo1 ∧ T1.heap = h1 ∧ n0 ≤ h1.size ∧ Keep h0 h1 [a] ∧ Exa Z h1 a cF ∧ Fld Z h1 a cF "instants" "[D" .null ∧ Fld Z h1 a cF "lefts" "[D" .null ∧ Fld Z h1 a cF "rights" "[D" .null ∧ Arv Z h1 ti ti_k .double ln lt dZ ∧ Arv Z h1 va va_k .double ln lv dZ ∧ EnvJ Z kB h1 aE kE aC kC lC i0 i1 i2 ∧ Exa Z h1 al aL ∧ Fld Z h1 al aB "modCount" "I" (.int (0 : Int32)) ∧ Fld Z h1 al aL "size" "I" (.int (0 : Int32)) ∧ Fld Z h1 al aL "elementData" lO (.ref aE) ∧ n0 ≤ al ∧ h0.size ≤ al ∧ a ≠ al ∧ ti ≠ al ∧ va ≠ al ∧ Pr p e below (T0.setTop (mkF m 178 #[.val (.ref a), .val (.ref ti), .val (.ref va), .val (.int ix), .unset, .unset, .unset] [])) T1 (mkF m 211 #[.val (.ref a), .val (.ref ti), .val (.ref va), .val (.ref al), .val (.int (0 : Int32)), .unset, .unset] []) := by
 have pre0 : Pr p e below (T0.setTop (mkF m 178 #[.val (.ref a), .val (.ref ti), .val (.ref va), .val (.int ix), .unset, .unset, .unset] [])) T0 (mkF m 178 #[.val (.ref a), .val (.ref ti), .val (.ref va), .val (.int ix), .unset, .unset, .unset] []) := fun _ kk => kk
 generalize hI : T0.setTop (mkF m 178 #[.val (.ref a), .val (.ref ti), .val (.ref va), .val (.int ix), .unset, .unset, .unset] []) = I0 at pre0 ⊢
 obtain ⟨T12, lo12, Hc12, X12, N12, e12, Zs12, KC12, E_a_c12, F_instants_c12, F_lefts_c12, F_rights_c12, V_ti_c12, V_va_c12, EN_c12, pre12⟩ : ∃ (T12 : State) (lo12 : List Loc) (Hc12 : Heap), Stand p l e R5_7_28_108 s m #[(.ref a), (.ref ti), (.ref va)] below meth c T12 lo12 2 6 ∧ Fr n0 lo12 ∧ T12.heap = Hc12 ∧ n0 ≤ Hc12.size ∧ Keep h0 Hc12 [a] ∧ Exa Z Hc12 a cF ∧ Fld Z Hc12 a cF "instants" "[D" .null ∧ Fld Z Hc12 a cF "lefts" "[D" .null ∧ Fld Z Hc12 a cF "rights" "[D" .null ∧ Arv Z Hc12 ti ti_k .double ln lt dZ ∧ Arv Z Hc12 va va_k .double ln lv dZ ∧ EnvJ Z kB Hc12 aE kE aC kC lC i0 i1 i2 ∧ Pr p e below I0 T12 (mkF m 200 #[.val (.ref a), .val (.ref ti), .val (.ref va), .val (.int ix), .unset, .unset, .unset] []) := by
  obtain ⟨T1, h1, X1, e1, E1, A1, Ex1, st1⟩ := own_clone X0 hx hZ hown (tw10 hw) (tw11 hw) (tw15 hw) (tw13 hw) (tw14 hw) (tw16 hw) e0 V_ti E_ti (g := (mkF m 180 #[.val (.ref a), .val (.ref ti), .val (.ref va), .val (.int ix), .unset, .unset, .unset] [(.ref ti), (.ref a)])) rfl (by rw [hml]; rfl) (rest := [(.ref a)]) rfl (hb hby d1_180) (by decide) (W := 1) (cap := 3) (own_mr rfl) (by decide) hln (by decide) (by decide)
  obtain ⟨b1, g1⟩ : ∃ z, z = hs.size := ⟨_, rfl⟩
  rw [← g1] at A1 Ex1 st1
  have ne_a_b1 := own_ne E_a.lt g1
  have gn_b1 := own_le Z0 g1
  have sz_b1 := own_le KC0.1 g1
  replace E_a := E_a.ext E1
  replace F_times := F_times.ext E1
  replace F_values := F_values.ext E1
  replace F_instants := F_instants.ext E1
  replace F_lefts := F_lefts.ext E1
  replace F_rights := F_rights.ext E1
  replace V_ti := V_ti.ext E1
  replace E_ti := E_ti.ext E1
  replace V_va := V_va.ext E1
  replace E_va := E_va.ext E1
  replace EN := EN.ext E1
  have Zs2 := Nat.le_trans Z0 E1.1
  have KC2 := KC0.ext E1
  have E_b1 : Exa Z h1 b1 "[D" := Ex1
  obtain ⟨T3, X3, e3, st3⟩ := castY X1 hx hZ hown (tw17 hw) e1 (Ins.self E_b1) (g := (mkF m 183 #[.val (.ref a), .val (.ref ti), .val (.ref va), .val (.int ix), .unset, .unset, .unset] [(.ref b1), (.ref a)])) rfl rfl (hb hby d1_183)
  obtain ⟨T4, h4, X4, e4, W4, st4⟩ := putF X3 hx hZ hown (host := "") (Or.inl (tw19 hw)) Via.refl e3 F_times E_a (Or.inr ⟨(tw20 hw), rfl, hnm⟩) (tw2 hw) (ty := (.array .double)) (by decide) rfl rfl (g := (mkF m 186 #[.val (.ref a), .val (.ref ti), .val (.ref va), .val (.int ix), .unset, .unset, .unset] [(.ref b1), (.ref a)])) rfl rfl (hb hby d1_186)
  have N4 := Fr.snoc X4 N0 g_a
  replace E_a := E_a.wr W4
  replace F_values := F_values.other W4 (Or.inr (slot_ne (Or.inr (tw22 hw)) (Or.inr (tw20 hw)) (by decide) (t := (.array .double)) (t' := (.array .double)) (by decide) (by decide)))
  replace F_instants := F_instants.other W4 (Or.inr (slot_ne (Or.inr (tw59 hw)) (Or.inr (tw20 hw)) (by decide) (t := (.array .double)) (t' := (.array .double)) (by decide) (by decide)))
  replace F_lefts := F_lefts.other W4 (Or.inr (slot_ne (Or.inr (tw61 hw)) (Or.inr (tw20 hw)) (by decide) (t := (.array .double)) (t' := (.array .double)) (by decide) (by decide)))
  replace F_rights := F_rights.other W4 (Or.inr (slot_ne (Or.inr (tw63 hw)) (Or.inr (tw20 hw)) (by decide) (t := (.array .double)) (t' := (.array .double)) (by decide) (by decide)))
  replace V_ti := V_ti.other W4 ne_ti_a
  replace V_va := V_va.other W4 ne_va_a
  replace E_va := E_va.wr W4
  replace EN := EN.wr W4 k_a
  have Zs5 := Nat.le_trans Zs2 (Keep.of_wr W4).1
  have KC5 := KC2.wr W4 (Or.inl (List.mem_of_getElem? (i := 0) rfl))
  obtain ⟨T6, h6, X6, e6, E6, A6, Ex6, st6⟩ := own_clone X4 hx hZ hown (tw10 hw) (tw11 hw) (tw15 hw) (tw13 hw) (tw14 hw) (tw16 hw) e4 V_va E_va (g := (mkF m 191 #[.val (.ref a), .val (.ref ti), .val (.ref va), .val (.int ix), .unset, .unset, .unset] [(.ref va), (.ref a)])) rfl (by rw [hml]; rfl) (rest := [(.ref a)]) rfl (hb hby d1_191) (by decide) (W := 1) (cap := 3) (own_mr rfl) (by decide) hln (by decide) (by decide)
  obtain ⟨b6, g6⟩ : ∃ z, z = h4.size := ⟨_, rfl⟩
  rw [← g6] at A6 Ex6 st6
  have ne_a_b6 := own_ne E_a.lt g6
  have gn_b6 := own_le Zs5 g6
  have sz_b6 := own_le KC5.1 g6
  replace E_a := E_a.ext E6
  replace F_values := F_values.ext E6
  replace F_instants := F_instants.ext E6
  replace F_lefts := F_lefts.ext E6
  replace F_rights := F_rights.ext E6
  replace V_ti := V_ti.ext E6
  replace V_va := V_va.ext E6
  replace E_va := E_va.ext E6
  replace EN := EN.ext E6
  have Zs7 := Nat.le_trans Zs5 E6.1
  have KC7 := KC5.ext E6
  have E_b6 : Exa Z h6 b6 "[D" := Ex6
  obtain ⟨T8, X8, e8, st8⟩ := castY X6 hx hZ hown (tw17 hw) e6 (Ins.self E_b6) (g := (mkF m 194 #[.val (.ref a), .val (.ref ti), .val (.ref va), .val (.int ix), .unset, .unset, .unset] [(.ref b6), (.ref a)])) rfl rfl (hb hby d1_194)
  obtain ⟨T9, h9, X9, e9, W9, st9⟩ := putF X8 hx hZ hown (host := "") (Or.inl (tw21 hw)) Via.refl e8 F_values E_a (Or.inr ⟨(tw22 hw), rfl, hnm⟩) (tw2 hw) (ty := (.array .double)) (by decide) rfl rfl (g := (mkF m 197 #[.val (.ref a), .val (.ref ti), .val (.ref va), .val (.int ix), .unset, .unset, .unset] [(.ref b6), (.ref a)])) rfl rfl (hb hby d1_197)
  have N9 := Fr.snoc X9 N4 g_a
  replace E_a := E_a.wr W9
  replace F_instants := F_instants.other W9 (Or.inr (slot_ne (Or.inr (tw59 hw)) (Or.inr (tw22 hw)) (by decide) (t := (.array .double)) (t' := (.array .double)) (by decide) (by decide)))
  replace F_lefts := F_lefts.other W9 (Or.inr (slot_ne (Or.inr (tw61 hw)) (Or.inr (tw22 hw)) (by decide) (t := (.array .double)) (t' := (.array .double)) (by decide) (by decide)))
  replace F_rights := F_rights.other W9 (Or.inr (slot_ne (Or.inr (tw63 hw)) (Or.inr (tw22 hw)) (by decide) (t := (.array .double)) (t' := (.array .double)) (by decide) (by decide)))
  replace V_ti := V_ti.other W9 ne_ti_a
  replace V_va := V_va.other W9 ne_va_a
  replace EN := EN.wr W9 k_a
  have Zs10 := Nat.le_trans Zs7 (Keep.of_wr W9).1
  have KC10 := KC7.wr W9 (Or.inl (List.mem_of_getElem? (i := 0) rfl))
  have pre11 : Pr p e below I0 T9 (mkF m 200 #[.val (.ref a), .val (.ref ti), .val (.ref va), .val (.int ix), .unset, .unset, .unset] []) := by
   intro tg kk
   refine pre0 tg ?_
   refine XS.aloadN X0.here hx rfl (hb hby d1_178) rfl rfl ?_
   refine XS.aloadN X0.here hx rfl (hb hby d1_179) rfl rfl ?_
   refine st1 _ ?_
   refine st3 _ ?_
   refine st4 _ ?_
   refine XS.aloadN X4.here hx rfl (hb hby d1_189) rfl rfl ?_
   refine XS.aloadN X4.here hx rfl (hb hby d1_190) rfl rfl ?_
   refine st6 _ ?_
   refine st8 _ ?_
   refine st9 _ ?_
   exact kk
  exact ⟨T9, _, h9, X9, N9, e9, Zs10, KC10, E_a, F_instants, F_lefts, F_rights, V_ti, V_va, EN, pre11⟩
 clear pre0 X0 N0 e0 KC0 Z0 E_a F_times F_values F_instants F_lefts F_rights V_ti E_ti V_va E_va EN
 obtain ⟨T13, h13, X13, e13, E13, A13, D13, -, st13⟩ := newO X12 hx hZ hown (tw23 hw) (tw24 hw) (tw25 hw) e12 (g := (mkF m 200 #[.val (.ref a), .val (.ref ti), .val (.ref va), .val (.int ix), .unset, .unset, .unset] [])) rfl (hb hby d1_200) (by decide) (by decide)
 obtain ⟨b13, g13⟩ : ∃ z, z = Hc12.size := ⟨_, rfl⟩
 rw [← g13] at A13 D13 st13
 have ne_a_b13 := own_ne E_a_c12.lt g13
 have ne_ti_b13 := own_ne V_ti_c12.lt g13
 have ne_va_b13 := own_ne V_va_c12.lt g13
 have gn_b13 := own_le Zs12 g13
 have sz_b13 := own_le KC12.1 g13
 replace E_a_c12 := E_a_c12.ext E13
 replace F_instants_c12 := F_instants_c12.ext E13
 replace F_lefts_c12 := F_lefts_c12.ext E13
 replace F_rights_c12 := F_rights_c12.ext E13
 replace V_ti_c12 := V_ti_c12.ext E13
 replace V_va_c12 := V_va_c12.ext E13
 replace EN_c12 := EN_c12.ext E13
 have Zs14 := Nat.le_trans Zs12 E13.1
 have KC14 := KC12.ext E13
 have E_b13 : Exa Z h13 b13 aL := A13
 have F_modCount_b13 : Fld Z h13 b13 aB "modCount" "I" (.int (0 : Int32)) := D13 (Or.inl (tw43 hw)) (ty := .int) (by decide)
 have F_elementData_b13 : Fld Z h13 b13 aL "elementData" lO .null := D13 (Or.inl (tw46 hw)) (ty := (.array (.object "java/lang/Object"))) (by decide)
 have F_size_b13 : Fld Z h13 b13 aL "size" "I" (.int (0 : Int32)) := D13 (Or.inl (tw57 hw)) (ty := .int) (by decide)
 obtain ⟨_, _, ⟨T16, L16, k16, n16⟩, -, X16, ⟨Lc16, hQ16, l16, y16, z16⟩, st16⟩ := X13.specialBack hx (y := M3) rfl hown (mvT hZ (tw26 hw)) (mvT hZ (tw27 hw)) (mvT hZ (tw28 hw)) (by decide) (backOf (W := 1) (rmAI l Z a0 hw [] b13 aE h13 n0 Zs14 E_b13 F_modCount_b13 F_size_b13 F_elementData_b13 EN_c12.sD gn_b13) hZ (tw28 hw) (tw25 hw) (by decide) (by decide)) (g := (mkF m 204 #[.val (.ref a), .val (.ref ti), .val (.ref va), .val (.int ix), .unset, .unset, .unset] [(.ref b13), (.ref b13)])) rfl (by rw [hml]; rfl) (Steps.refl _) (a := b13) (argsL := []) (rest := [(.ref b13)]) (lenOf pd___V rfl) rfl (own_mr rfl) (hb hby d1_204) (fun _ _ => ⟨rfl, e13, (by decide : 3 + 0 ≤ _), (by decide : 9 + 0 ≤ _)⟩)
 dsimp only [Pt.U, Pt.locs, Pt.cells, Pt.slots] at X16 l16 y16 z16 st16 hQ16
 rw [l16, y16, z16] at X16
 obtain ⟨rfl, N16q, K16, P16_0, P16_1, P16_2⟩ := hQ16
 have N16 := Fr.app N12 N16q
 have pl13_b13 := own_plain_Exa E_b13
 replace E_a_c12 := E_a_c12.keep K16
 replace F_instants_c12 := F_instants_c12.keep K16 (ninS ne_a_b13 nin0)
 replace F_lefts_c12 := F_lefts_c12.keep K16 (ninS ne_a_b13 nin0)
 replace F_rights_c12 := F_rights_c12.keep K16 (ninS ne_a_b13 nin0)
 replace V_ti_c12 := V_ti_c12.keep K16 (ninS ne_ti_b13 nin0)
 replace V_va_c12 := V_va_c12.keep K16 (ninS ne_va_b13 nin0)
 replace EN_c12 := EN_c12.keep K16 (allS (Nat.le_trans hkB sz_b13) all0) (allS pl13_b13 all0)
 replace E_b13 := E_b13.keep K16
 have Zs17 := Nat.le_trans Zs14 K16.1
 have KC17 := KC14.trans K16 (allS (Or.inr sz_b13) all0)
 have pre18 : Pr p e below I0 T16 (mkF m 211 #[.val (.ref a), .val (.ref ti), .val (.ref va), .val (.ref b13), .val (.int (0 : Int32)), .unset, .unset] []) := by
  intro tg kk
  refine pre12 tg ?_
  refine st13 _ ?_
  refine XS.dup X13.here hx rfl (hb hby d1_203) rfl rfl ?_
  refine st16.trans ?_
  refine XS.astoreN X16.here hx rfl (hb hby d1_207) rfl rfl (l' := #[.val (.ref a), .val (.ref ti), .val (.ref va), .val (.ref b13), .unset, .unset, .unset]) rfl ?_
  refine XS.iconst X16.here hx rfl (hb hby d1_208) ?_
  refine XS.istore X16.here hx rfl (hb hby d1_209) rfl (l' := #[.val (.ref a), .val (.ref ti), .val (.ref va), .val (.ref b13), .val (.int (0 : Int32)), .unset, .unset]) rfl ?_
  exact kk
 exact ⟨T16, _, T16.heap, b13, X16, N16, rfl, Zs17, KC17, E_a_c12, F_instants_c12, F_lefts_c12, F_rights_c12, V_ti_c12, V_va_c12, EN_c12, E_b13, P16_0, P16_1, P16_2, gn_b13, sz_b13, ne_a_b13, ne_ti_b13, ne_va_b13, pre18⟩
theorem d1_255 : decode cp_37_1 255 = .ok (.aload_n 0, 1) := by decide +kernel
theorem d1_256 : decode cp_37_1 256 = .ok (.aload_n 3, 1) := by decide +kernel
theorem d1_257 : decode cp_37_1 257 = .ok (.invokeinterface 61 1, 5) := by decide +kernel
theorem d1_262 : decode cp_37_1 262 = .ok (.newarray .double, 2) := by decide +kernel
theorem d1_264 : decode cp_37_1 264 = .ok (.putfield 65, 3) := by decide +kernel
theorem d1_267 : decode cp_37_1 267 = .ok (.aload_n 0, 1) := by decide +kernel
theorem d1_268 : decode cp_37_1 268 = .ok (.aload_n 3, 1) := by decide +kernel
theorem d1_269 : decode cp_37_1 269 = .ok (.invokeinterface 61 1, 5) := by decide +kernel
theorem d1_274 : decode cp_37_1 274 = .ok (.newarray .double, 2) := by decide +kernel
theorem d1_276 : decode cp_37_1 276 = .ok (.putfield 68, 3) := by decide +kernel
theorem d1_279 : decode cp_37_1 279 = .ok (.aload_n 0, 1) := by decide +kernel
theorem d1_280 : decode cp_37_1 280 = .ok (.aload_n 3, 1) := by decide +kernel
theorem d1_281 : decode cp_37_1 281 = .ok (.invokeinterface 61 1, 5) := by decide +kernel
theorem d1_286 : decode cp_37_1 286 = .ok (.newarray .double, 2) := by decide +kernel
theorem d1_288 : decode cp_37_1 288 = .ok (.putfield 71, 3) := by decide +kernel
theorem d1_291 : decode cp_37_1 291 = .ok (.iconst 0, 1) := by decide +kernel
theorem d1_292 : decode cp_37_1 292 = .ok (.istore 4, 2) := by decide +kernel
theorem d1_294 : decode cp_37_1 294 = .ok (.iload 4, 2) := by decide +kernel
theorem d1_296 : decode cp_37_1 296 = .ok (.aload_n 3, 1) := by decide +kernel
theorem d1_297 : decode cp_37_1 297 = .ok (.invokeinterface 61 1, 5) := by decide +kernel
theorem d1_302 : decode cp_37_1 302 = .ok (.if_icmp .ge 107, 3) := by decide +kernel
theorem pd___I : parseMethodDescriptor "()I" = some ⟨[], some .int⟩ := by decide +kernel
set_option maxRecDepth 65536 in
set_option maxHeartbeats 40000000 in
theorem sC0 {p : Program} {l : Launch} {e : Env} {s : State} {m : MethodId} {below : List Frame} {meth : Method} {c : Code} {T0 : State} {lo0 : List Loc} {Z : State} {a0 : Array Value} (hw : HW a0 Z) (hx : p.tables.exec = Jvm.exec) (hby : c.code = prog_37_method_1_code) (hml : c.maxLocals = 7) (hZ : Z.Warmed39 s.vm) (hown : s.vm.findClass cF = some m.cls) (hnm : meth.name = "<init>") (a : Addr) (ti : Addr) (ti_k : ClassId) (va : Addr) (va_k : ClassId) (ln : Int32) (lt : List Value) (lv : List Value) (iz : Int32) (al : Addr) {h0 hs : Heap} {n0 : Nat} (X0 : Stand p l e R5_7_28_108 s m #[(.ref a), (.ref ti), (.ref va)] below meth c T0 lo0 4 19) (N0 : Fr n0 lo0) (e0 : T0.heap = hs) (Z0 : n0 ≤ hs.size) (KC0 : Keep h0 hs [a]) (E_a : Exa Z hs a cF) (F_instants : Fld Z hs a cF "instants" "[D" .null) (F_lefts : Fld Z hs a cF "lefts" "[D" .null) (F_rights : Fld Z hs a cF "rights" "[D" .null) (V_ti : Arv Z hs ti ti_k .double ln lt dZ) (V_va : Arv Z hs va va_k .double ln lv dZ) (E_al : Exa Z hs al aL) (F_s : Fld Z hs al aL "size" "I" (.int (0 : Int32))) (g_a : n0 ≤ a) (ne_ti_a : ti ≠ a) (ne_va_a : va ≠ a) (ne_al_a : al ≠ a) :
    ∃ (T1 : State) (lo1 : List Loc) (h1 : Heap) (di : Addr) (di_k : ClassId) (dl : Addr) (dl_k : ClassId) (dr : Addr) (dr_k : ClassId), Stand p l e R5_7_28_108 s m #[(.ref a), (.ref ti), (.ref va)] below meth c T1 lo1 7 19 ∧ Fr n0 lo1 ∧ T1.heap = h1 ∧ n0 ≤ h1.size ∧ Keep h0 h1 [a] ∧ Exa Z h1 a cF ∧ Fld Z h1 a cF "instants" "[D" (.ref di) ∧ Fld Z h1 a cF "lefts" "[D" (.ref dl) ∧ Fld Z h1 a cF "rights" "[D" (.ref dr) ∧ Arv Z h1 di di_k .double (0 : Int32) [] dZ ∧ Arv Z h1 dl dl_k .double (0 : Int32) [] dZ ∧ Arv Z h1 dr dr_k .double (0 : Int32) [] dZ ∧ n0 ≤ di ∧ h0.size ≤ di ∧ n0 ≤ dl ∧ h0.size ≤ dl ∧ n0 ≤ dr ∧ h0.size ≤ dr ∧ Pr p e below (T0.setTop (mkF m 255 #[.val (.ref a), .val (.ref ti), .val (.ref va), .val (.ref al), .val (.int iz), .unset, .unset] [])) T1 (mkF m 409 #[.val (.ref a), .val (.ref ti), .val (.ref va), .val (.ref al), .val (.int (0 : Int32)), .unset, .unset] []) := by
 have pre0 : Pr p e below (T0.setTop (mkF m 255 #[.val (.ref a), .val (.ref ti), .val (.ref va), .val (.ref al), .val (.int iz), .unset, .unset] [])) T0 (mkF m 255 #[.val (.ref a), .val (.ref ti), .val (.ref va), .val (.ref al), .val (.int iz), .unset, .unset] []) := fun _ kk => kk
 generalize hI : T0.setTop (mkF m 255 #[.val (.ref a), .val (.ref ti), .val (.ref va), .val (.ref al), .val (.int iz), .unset, .unset] []) = I0 at pre0 ⊢
 obtain ⟨T12, lo12, Hc12, b2, b7, k2, k7, X12, N12, e12, Zs12, KC12, E_a_c12, F_rights_c12, E_al_c12, F_s_c12, V_b2_c12, Fq4_c12, V_b7_c12, Fq9_c12, gnc12_1, gnc12_2, szc12_0, szc12_1, nesc12_3, nesc12_4, pre12⟩ : ∃ (T12 : State) (lo12 : List Loc) (Hc12 : Heap) (b2 : Addr) (b7 : Addr) (k2 : ClassId) (k7 : ClassId), Stand p l e R5_7_28_108 s m #[(.ref a), (.ref ti), (.ref va)] below meth c T12 lo12 6 19 ∧ Fr n0 lo12 ∧ T12.heap = Hc12 ∧ n0 ≤ Hc12.size ∧ Keep h0 Hc12 [a] ∧ Exa Z Hc12 a cF ∧ Fld Z Hc12 a cF "rights" "[D" .null ∧ Exa Z Hc12 al aL ∧ Fld Z Hc12 al aL "size" "I" (.int (0 : Int32)) ∧ Arv Z Hc12 b2 k2 .double (0 : Int32) [] dZ ∧ Fld Z Hc12 a cF "instants" "[D" (.ref b2) ∧ Arv Z Hc12 b7 k7 .double (0 : Int32) [] dZ ∧ Fld Z Hc12 a cF "lefts" "[D" (.ref b7) ∧ n0 ≤ b2 ∧ n0 ≤ b7 ∧ h0.size ≤ b2 ∧ h0.size ≤ b7 ∧ a ≠ b2 ∧ a ≠ b7 ∧ Pr p e below I0 T12 (mkF m 279 #[.val (.ref a), .val (.ref ti), .val (.ref va), .val (.ref al), .val (.int iz), .unset, .unset] []) := by
  obtain ⟨cq1, kq1, q1a, q1b, q1c⟩ := isOf hZ e0 E_al
  obtain ⟨_, _, ⟨T1, L1, k1, n1⟩, -, X1, ⟨Lc1, hQ1, l1, y1, z1⟩, st1⟩ := X0.interfaceBack hx (xi := M16) (y := M4) hown (mvT hZ (tw47 hw)) (mvT hZ (tw48 hw)) (mvT hZ (tw49 hw)) (mvT hZ (tw50 hw)) (mvT hZ (tw51 hw)) (mvT hZ (tw52 hw)) (mvT hZ (tw53 hw)) (mvT hZ (tw54 hw)) (by decide) (backOf (W := 1) (rmSz l Z a0 hw [] al ((0 : Int32)) hs n0 Z0 F_s) hZ (tw55 hw) (tw25 hw) (by decide) (by decide)) q1a q1b q1c (g := (mkF m 257 #[.val (.ref a), .val (.ref ti), .val (.ref va), .val (.ref al), .val (.int iz), .unset, .unset] [(.ref al), (.ref a)])) rfl (by rw [hml]; rfl) (Steps.refl _) (argsL := []) (rest := [(.ref a)]) (lenOf pd___I rfl) rfl (own_mr rfl) (hb hby d1_257) (fun _ _ => ⟨rfl, e0, (by decide : 4 + 0 ≤ _), (by decide : 19 + 0 ≤ _)⟩)
  dsimp only [Pt.U, Pt.locs, Pt.cells, Pt.slots] at X1 l1 y1 z1 st1 hQ1
  rw [l1, y1, z1] at X1
  obtain ⟨rfl, N1q, hh1⟩ := hQ1
  have N1 := Fr.app N0 N1q
  obtain ⟨T2, h2, k2, X2, e2, E2, A2, Ex2, st2⟩ := newPE X1 hx hZ (aty := .double) (tw0 hw) hh1 (g := (mkF m 262 #[.val (.ref a), .val (.ref ti), .val (.ref va), .val (.ref al), .val (.int iz), .unset, .unset] [(.int (0 : Int32)), (.ref a)])) rfl (hb hby d1_262) rfl (by decide) (cap := 0) (by decide) (by decide) (by decide) (by decide) (ad := "[D") (by decide +kernel)
  obtain ⟨b2, g2⟩ : ∃ z, z = hs.size := ⟨_, rfl⟩
  rw [← g2] at A2 Ex2 st2
  have ne_a_b2 := own_ne E_a.lt g2
  have gn_b2 := own_le Z0 g2
  have sz_b2 := own_le KC0.1 g2
  replace E_a := E_a.ext E2
  replace F_instants := F_instants.ext E2
  replace F_lefts := F_lefts.ext E2
  replace F_rights := F_rights.ext E2
  replace E_al := E_al.ext E2
  replace F_s := F_s.ext E2
  have Zs3 := Nat.le_trans Z0 E2.1
  have KC3 := KC0.ext E2
  have V_b2 : Arv Z h2 b2 k2 .double (0 : Int32) [] dZ := (Arv.newD A2 (by decide)).pad (pad_rep [] dZ 0)
  obtain ⟨T4, h4, X4, e4, W4, st4⟩ := putF X2 hx hZ hown (host := "") (Or.inl (tw58 hw)) Via.refl e2 F_instants E_a (Or.inr ⟨(tw59 hw), rfl, hnm⟩) (tw2 hw) (ty := (.array .double)) (by decide) rfl rfl (g := (mkF m 264 #[.val (.ref a), .val (.ref ti), .val (.ref va), .val (.ref al), .val (.int iz), .unset, .unset] [(.ref b2), (.ref a)])) rfl rfl (hb hby d1_264)
  have N4 := Fr.snoc X4 N1 g_a
  have Fq4 := F_instants.same W4
  replace E_a := E_a.wr W4
  replace F_lefts := F_lefts.other W4 (Or.inr (slot_ne (Or.inr (tw61 hw)) (Or.inr (tw59 hw)) (by decide) (t := (.array .double)) (t' := (.array .double)) (by decide) (by decide)))
  replace F_rights := F_rights.other W4 (Or.inr (slot_ne (Or.inr (tw63 hw)) (Or.inr (tw59 hw)) (by decide) (t := (.array .double)) (t' := (.array .double)) (by decide) (by decide)))
  replace E_al := E_al.wr W4
  replace F_s := F_s.other W4 (Or.inl ne_al_a)
  replace V_b2 := V_b2.other W4 (Ne.symm ne_a_b2)
  have Zs5 := Nat.le_trans Zs3 (Keep.of_wr W4).1
  have KC5 := KC3.wr W4 (Or.inl (List.mem_of_getElem? (i := 0) rfl))
  obtain ⟨cq6, kq6, q6a, q6b, q6c⟩ := isOf hZ e4 E_al
  obtain ⟨_, _, ⟨T6, L6, k6, n6⟩, -, X6, ⟨Lc6, hQ6, l6, y6, z6⟩, st6⟩ := X4.interfaceBack hx (xi := M16) (y := M4) hown (mvT hZ (tw47 hw)) (mvT hZ (tw48 hw)) (mvT hZ (tw49 hw)) (mvT hZ (tw50 hw)) (mvT hZ (tw51 hw)) (mvT hZ (tw52 hw)) (mvT hZ (tw53 hw)) (mvT hZ (tw54 hw)) (by decide) (backOf (W := 1) (rmSz l Z a0 hw [] al ((0 : Int32)) h4 n0 Zs5 F_s) hZ (tw55 hw) (tw25 hw) (by decide) (by decide)) q6a q6b q6c (g := (mkF m 269 #[.val (.ref a), .val (.ref ti), .val (.ref va), .val (.ref al), .val (.int iz), .unset, .unset] [(.ref al), (.ref a)])) rfl (by rw [hml]; rfl) (Steps.refl _) (argsL := []) (rest := [(.ref a)]) (lenOf pd___I rfl) rfl (own_mr rfl) (hb hby d1_269) (fun _ _ => ⟨rfl, e4, (by decide : 5 + 0 ≤ _), (by decide : 19 + 0 ≤ _)⟩)
  dsimp only [Pt.U, Pt.locs, Pt.cells, Pt.slots] at X6 l6 y6 z6 st6 hQ6
  rw [l6, y6, z6] at X6
  obtain ⟨rfl, N6q, hh6⟩ := hQ6
  have N6 := Fr.app N4 N6q
  obtain ⟨T7, h7, k7, X7, e7, E7, A7, Ex7, st7⟩ := newPE X6 hx hZ (aty := .double) (tw0 hw) hh6 (g := (mkF m 274 #[.val (.ref a), .val (.ref ti), .val (.ref va), .val (.ref al), .val (.int iz), .unset, .unset] [(.int (0 : Int32)), (.ref a)])) rfl (hb hby d1_274) rfl (by decide) (cap := 0) (by decide) (by decide) (by decide) (by decide) (ad := "[D") (by decide +kernel)
  obtain ⟨b7, g7⟩ : ∃ z, z = h4.size := ⟨_, rfl⟩
  rw [← g7] at A7 Ex7 st7
  have ne_a_b7 := own_ne E_a.lt g7
  have gn_b7 := own_le Zs5 g7
  have sz_b7 := own_le KC5.1 g7
  replace E_a := E_a.ext E7
  replace F_lefts := F_lefts.ext E7
  replace F_rights := F_rights.ext E7
  replace E_al := E_al.ext E7
  replace F_s := F_s.ext E7
  replace V_b2 := V_b2.ext E7
  replace Fq4 := Fq4.ext E7
  have Zs8 := Nat.le_trans Zs5 E7.1
  have KC8 := KC5.ext E7
  have V_b7 : Arv Z h7 b7 k7 .double (0 : Int32) [] dZ := (Arv.newD A7 (by decide)).pad (pad_rep [] dZ 0)
  obtain ⟨T9, h9, X9, e9, W9, st9⟩ := putF X7 hx hZ hown (host := "") (Or.inl (tw60 hw)) Via.refl e7 F_lefts E_a (Or.inr ⟨(tw61 hw), rfl, hnm⟩) (tw2 hw) (ty := (.array .double)) (by decide) rfl rfl (g := (mkF m 276 #[.val (.ref a), .val (.ref ti), .val (.ref va), .val (.ref al), .val (.int iz), .unset, .unset] [(.ref b7), (.ref a)])) rfl rfl (hb hby d1_276)
  have N9 := Fr.snoc X9 N6 g_a
  have Fq9 := F_lefts.same W9
  replace E_a := E_a.wr W9
  replace F_rights := F_rights.other W9 (Or.inr (slot_ne (Or.inr (tw63 hw)) (Or.inr (tw61 hw)) (by decide) (t := (.array .double)) (t' := (.array .double)) (by decide) (by decide)))
  replace E_al := E_al.wr W9
  replace F_s := F_s.other W9 (Or.inl ne_al_a)
  replace V_b2 := V_b2.other W9 (Ne.symm ne_a_b2)
  replace Fq4 := Fq4.other W9 (Or.inr (slot_ne (Or.inr (tw59 hw)) (Or.inr (tw61 hw)) (by decide) (t := (.array .double)) (t' := (.array .double)) (by decide) (by decide)))
  replace V_b7 := V_b7.other W9 (Ne.symm ne_a_b7)
  have Zs10 := Nat.le_trans Zs8 (Keep.of_wr W9).1
  have KC10 := KC8.wr W9 (Or.inl (List.mem_of_getElem? (i := 0) rfl))
  have pre11 : Pr p e below I0 T9 (mkF m 279 #[.val (.ref a), .val (.ref ti), .val (.ref va), .val (.ref al), .val (.int iz), .unset, .unset] []) := by
   intro tg kk
   refine pre0 tg ?_
   refine XS.aloadN X0.here hx rfl (hb hby d1_255) rfl rfl ?_
   refine XS.aloadN X0.here hx rfl (hb hby d1_256) rfl rfl ?_
   refine st1.trans ?_
   refine st2 _ ?_
   refine st4 _ ?_
   refine XS.aloadN X4.here hx rfl (hb hby d1_267) rfl rfl ?_
   refine XS.aloadN X4.here hx rfl (hb hby d1_268) rfl rfl ?_
   refine st6.trans ?_
   refine st7 _ ?_
   refine st9 _ ?_
   exact kk
  exact ⟨T9, _, h9, b2, b7, k2, k7, X9, N9, e9, Zs10, KC10, E_a, F_rights, E_al, F_s, V_b2, Fq4, V_b7, Fq9, gn_b2, gn_b7, sz_b2, sz_b7, ne_a_b2, ne_a_b7, pre11⟩
 clear pre0 X0 N0 e0 KC0 Z0 E_a F_instants F_lefts F_rights V_ti V_va E_al F_s
 obtain ⟨cq13, kq13, q13a, q13b, q13c⟩ := isOf hZ e12 E_al_c12
 obtain ⟨_, _, ⟨T13, L13, k13, n13⟩, -, X13, ⟨Lc13, hQ13, l13, y13, z13⟩, st13⟩ := X12.interfaceBack hx (xi := M16) (y := M4) hown (mvT hZ (tw47 hw)) (mvT hZ (tw48 hw)) (mvT hZ (tw49 hw)) (mvT hZ (tw50 hw)) (mvT hZ (tw51 hw)) (mvT hZ (tw52 hw)) (mvT hZ (tw53 hw)) (mvT hZ (tw54 hw)) (by decide) (backOf (W := 1) (rmSz l Z a0 hw [] al ((0 : Int32)) Hc12 n0 Zs12 F_s_c12) hZ (tw55 hw) (tw25 hw) (by decide) (by decide)) q13a q13b q13c (g := (mkF m 281 #[.val (.ref a), .val (.ref ti), .val (.ref va), .val (.ref al), .val (.int iz), .unset, .unset] [(.ref al), (.ref a)])) rfl (by rw [hml]; rfl) (Steps.refl _) (argsL := []) (rest := [(.ref a)]) (lenOf pd___I rfl) rfl (own_mr rfl) (hb hby d1_281) (fun _ _ => ⟨rfl, e12, (by decide : 6 + 0 ≤ _), (by decide : 19 + 0 ≤ _)⟩)
 dsimp only [Pt.U, Pt.locs, Pt.cells, Pt.slots] at X13 l13 y13 z13 st13 hQ13
 rw [l13, y13, z13] at X13
 obtain ⟨rfl, N13q, hh13⟩ := hQ13
 have N13 := Fr.app N12 N13q
 obtain ⟨T14, h14, k14, X14, e14, E14, A14, Ex14, st14⟩ := newPE X13 hx hZ (aty := .double) (tw0 hw) hh13 (g := (mkF m 286 #[.val (.ref a), .val (.ref ti), .val (.ref va), .val (.ref al), .val (.int iz), .unset, .unset] [(.int (0 : Int32)), (.ref a)])) rfl (hb hby d1_286) rfl (by decide) (cap := 0) (by decide) (by decide) (by decide) (by decide) (ad := "[D") (by decide +kernel)
 obtain ⟨b14, g14⟩ : ∃ z, z = Hc12.size := ⟨_, rfl⟩
 rw [← g14] at A14 Ex14 st14
 have ne_a_b14 := own_ne E_a_c12.lt g14
 have gn_b14 := own_le Zs12 g14
 have sz_b14 := own_le KC12.1 g14
 replace E_a_c12 := E_a_c12.ext E14
 replace F_rights_c12 := F_rights_c12.ext E14
 replace E_al_c12 := E_al_c12.ext E14
 replace F_s_c12 := F_s_c12.ext E14
 replace V_b2_c12 := V_b2_c12.ext E14
 replace Fq4_c12 := Fq4_c12.ext E14
 replace V_b7_c12 := V_b7_c12.ext E14
 replace Fq9_c12 := Fq9_c12.ext E14
 have Zs15 := Nat.le_trans Zs12 E14.1
 have KC15 := KC12.ext E14
 have V_b14 : Arv Z h14 b14 k14 .double (0 : Int32) [] dZ := (Arv.newD A14 (by decide)).pad (pad_rep [] dZ 0)
 obtain ⟨T16, h16, X16, e16, W16, st16⟩ := putF X14 hx hZ hown (host := "") (Or.inl (tw62 hw)) Via.refl e14 F_rights_c12 E_a_c12 (Or.inr ⟨(tw63 hw), rfl, hnm⟩) (tw2 hw) (ty := (.array .double)) (by decide) rfl rfl (g := (mkF m 288 #[.val (.ref a), .val (.ref ti), .val (.ref va), .val (.ref al), .val (.int iz), .unset, .unset] [(.ref b14), (.ref a)])) rfl rfl (hb hby d1_288)
 have N16 := Fr.snoc X16 N13 g_a
 have Fq16 := F_rights_c12.same W16
 replace E_a_c12 := E_a_c12.wr W16
 replace E_al_c12 := E_al_c12.wr W16
 replace F_s_c12 := F_s_c12.other W16 (Or.inl ne_al_a)
 replace V_b2_c12 := V_b2_c12.other W16 (Ne.symm nesc12_3)
 replace Fq4_c12 := Fq4_c12.other W16 (Or.inr (slot_ne (Or.inr (tw59 hw)) (Or.inr (tw63 hw)) (by decide) (t := (.array .double)) (t' := (.array .double)) (by decide) (by decide)))
 replace V_b7_c12 := V_b7_c12.other W16 (Ne.symm nesc12_4)
 replace Fq9_c12 := Fq9_c12.other W16 (Or.inr (slot_ne (Or.inr (tw61 hw)) (Or.inr (tw63 hw)) (by decide) (t := (.array .double)) (t' := (.array .double)) (by decide) (by decide)))
 replace V_b14 := V_b14.other W16 (Ne.symm ne_a_b14)
 have Zs17 := Nat.le_trans Zs15 (Keep.of_wr W16).1
 have KC17 := KC15.wr W16 (Or.inl (List.mem_of_getElem? (i := 0) rfl))
 obtain ⟨cq18, kq18, q18a, q18b, q18c⟩ := isOf hZ e16 E_al_c12
 obtain ⟨_, _, ⟨T18, L18, k18, n18⟩, -, X18, ⟨Lc18, hQ18, l18, y18, z18⟩, st18⟩ := X16.interfaceBack hx (xi := M16) (y := M4) hown (mvT hZ (tw47 hw)) (mvT hZ (tw48 hw)) (mvT hZ (tw49 hw)) (mvT hZ (tw50 hw)) (mvT hZ (tw51 hw)) (mvT hZ (tw52 hw)) (mvT hZ (tw53 hw)) (mvT hZ (tw54 hw)) (by decide) (backOf (W := 1) (rmSz l Z a0 hw [] al ((0 : Int32)) h16 n0 Zs17 F_s_c12) hZ (tw55 hw) (tw25 hw) (by decide) (by decide)) q18a q18b q18c (g := (mkF m 297 #[.val (.ref a), .val (.ref ti), .val (.ref va), .val (.ref al), .val (.int (0 : Int32)), .unset, .unset] [(.ref al), (.int (0 : Int32))])) rfl (by rw [hml]; rfl) (Steps.refl _) (argsL := []) (rest := [(.int (0 : Int32))]) (lenOf pd___I rfl) rfl (own_mr rfl) (hb hby d1_297) (fun _ _ => ⟨rfl, e16, (by decide : 7 + 0 ≤ _), (by decide : 19 + 0 ≤ _)⟩)
 dsimp only [Pt.U, Pt.locs, Pt.cells, Pt.slots] at X18 l18 y18 z18 st18 hQ18
 rw [l18, y18, z18] at X18
 obtain ⟨rfl, N18q, hh18⟩ := hQ18
 have N18 := Fr.app N16 N18q
 have pre19 : Pr p e below I0 T18 (mkF m 409 #[.val (.ref a), .val (.ref ti), .val (.ref va), .val (.ref al), .val (.int (0 : Int32)), .unset, .unset] []) := by
  intro tg kk
  refine pre12 tg ?_
  refine XS.aloadN X12.here hx rfl (hb hby d1_279) rfl rfl ?_
  refine XS.aloadN X12.here hx rfl (hb hby d1_280) rfl rfl ?_
  refine st13.trans ?_
  refine st14 _ ?_
  refine st16 _ ?_
  refine XS.iconst X16.here hx rfl (hb hby d1_291) ?_
  refine XS.istore X16.here hx rfl (hb hby d1_292) rfl (l' := #[.val (.ref a), .val (.ref ti), .val (.ref va), .val (.ref al), .val (.int (0 : Int32)), .unset, .unset]) rfl ?_
  refine XS.iload X16.here hx rfl (hb hby d1_294) rfl ?_
  refine XS.aloadN X16.here hx rfl (hb hby d1_296) rfl rfl ?_
  refine st18.trans ?_
  refine XS.icmpYes X18.here hx rfl (pc0 := 302) (pc' := 409) rfl (hb hby d1_302) rfl (XT.ii_ge_t (by decide)) (by decide) (by decide) ?_
  exact kk
 exact ⟨T18, _, h16, b2, k2, b7, k7, b14, k14, X18, N18, hh18, Zs17, KC17, E_a_c12, Fq4_c12, Fq9_c12, Fq16, V_b2_c12, V_b7_c12, V_b14, gnc12_1, szc12_0, gnc12_2, szc12_1, gn_b14, sz_b14, pre19⟩
theorem d1_305 : decode cp_37_1 305 = .ok (.aload_n 3, 1) := by decide +kernel
theorem d1_306 : decode cp_37_1 306 = .ok (.iload 4, 2) := by decide +kernel
theorem d1_308 : decode cp_37_1 308 = .ok (.invokeinterface 74 2, 5) := by decide +kernel
theorem d1_313 : decode cp_37_1 313 = .ok (.checkcast 50, 3) := by decide +kernel
theorem d1_316 : decode cp_37_1 316 = .ok (.invokevirtual 78, 3) := by decide +kernel
theorem d1_319 : decode cp_37_1 319 = .ok (.istore 5, 2) := by decide +kernel
theorem d1_321 : decode cp_37_1 321 = .ok (.iload 4, 2) := by decide +kernel
theorem d1_323 : decode cp_37_1 323 = .ok (.iconst 1, 1) := by decide +kernel
theorem d1_324 : decode cp_37_1 324 = .ok (.iadd, 1) := by decide +kernel
theorem d1_325 : decode cp_37_1 325 = .ok (.aload_n 3, 1) := by decide +kernel
theorem d1_326 : decode cp_37_1 326 = .ok (.invokeinterface 61 1, 5) := by decide +kernel
theorem d1_331 : decode cp_37_1 331 = .ok (.if_icmp .ge 24, 3) := by decide +kernel
theorem d1_355 : decode cp_37_1 355 = .ok (.aload_n 1, 1) := by decide +kernel
theorem d1_356 : decode cp_37_1 356 = .ok (.arraylength, 1) := by decide +kernel
theorem d1_357 : decode cp_37_1 357 = .ok (.iconst 1, 1) := by decide +kernel
theorem d1_358 : decode cp_37_1 358 = .ok (.isub, 1) := by decide +kernel
theorem d1_359 : decode cp_37_1 359 = .ok (.istore 6, 2) := by decide +kernel
theorem d1_361 : decode cp_37_1 361 = .ok (.aload_n 0, 1) := by decide +kernel
theorem d1_362 : decode cp_37_1 362 = .ok (.getfield 65, 3) := by decide +kernel
theorem d1_365 : decode cp_37_1 365 = .ok (.iload 4, 2) := by decide +kernel
theorem d1_367 : decode cp_37_1 367 = .ok (.aload_n 1, 1) := by decide +kernel
theorem d1_368 : decode cp_37_1 368 = .ok (.iload 5, 2) := by decide +kernel
theorem d1_370 : decode cp_37_1 370 = .ok (.daload, 1) := by decide +kernel
theorem d1_371 : decode cp_37_1 371 = .ok (.dastore, 1) := by decide +kernel
theorem d1_372 : decode cp_37_1 372 = .ok (.aload_n 0, 1) := by decide +kernel
theorem d1_373 : decode cp_37_1 373 = .ok (.getfield 68, 3) := by decide +kernel
theorem d1_376 : decode cp_37_1 376 = .ok (.iload 4, 2) := by decide +kernel
theorem d1_378 : decode cp_37_1 378 = .ok (.iload 4, 2) := by decide +kernel
theorem d1_380 : decode cp_37_1 380 = .ok (.ifCond .ne 7, 3) := by decide +kernel
theorem d1_383 : decode cp_37_1 383 = .ok (.dconst 0, 1) := by decide +kernel
theorem d1_384 : decode cp_37_1 384 = .ok (.goto 7, 3) := by decide +kernel
theorem d1_391 : decode cp_37_1 391 = .ok (.dastore, 1) := by decide +kernel
theorem d1_392 : decode cp_37_1 392 = .ok (.aload_n 0, 1) := by decide +kernel
theorem d1_393 : decode cp_37_1 393 = .ok (.getfield 71, 3) := by decide +kernel
theorem d1_396 : decode cp_37_1 396 = .ok (.iload 4, 2) := by decide +kernel
theorem d1_398 : decode cp_37_1 398 = .ok (.aload_n 2, 1) := by decide +kernel
theorem d1_399 : decode cp_37_1 399 = .ok (.iload 6, 2) := by decide +kernel
theorem d1_401 : decode cp_37_1 401 = .ok (.daload, 1) := by decide +kernel
theorem d1_402 : decode cp_37_1 402 = .ok (.dastore, 1) := by decide +kernel
theorem d1_403 : decode cp_37_1 403 = .ok (.iinc 4 1, 3) := by decide +kernel
theorem d1_406 : decode cp_37_1 406 = .ok (.goto (-112), 3) := by decide +kernel
set_option maxRecDepth 65536 in
set_option maxHeartbeats 40000000 in
theorem sC1 {p : Program} {l : Launch} {e : Env} {s : State} {m : MethodId} {below : List Frame} {meth : Method} {c : Code} {T0 : State} {lo0 : List Loc} {Z : State} {a0 : Array Value} (hw : HW a0 Z) (hx : p.tables.exec = Jvm.exec) (hby : c.code = prog_37_method_1_code) (hml : c.maxLocals = 7) (hZ : Z.Warmed39 s.vm) (hown : s.vm.findClass cF = some m.cls) (hnm : meth.name = "<init>") (a : Addr) (ti : Addr) (ti_k : ClassId) (va : Addr) (va_k : ClassId) (ln : Int32) (lt : List Value) (lv : List Value) (iz : Int32) (al : Addr) (b : Addr) (b_k : ClassId) (x1 : Addr) (ix1 : Int32) (ta1 : Int64) (tc1 : Int64) {h0 hs : Heap} {n0 : Nat} (X0 : Stand p l e R5_7_28_108 s m #[(.ref a), (.ref ti), (.ref va)] below meth c T0 lo0 4 19) (N0 : Fr n0 lo0) (e0 : T0.heap = hs) (Z0 : n0 ≤ hs.size) (KC0 : Keep h0 hs [a]) (E_a : Exa Z hs a cF) (F_instants : Fld Z hs a cF "instants" "[D" .null) (F_lefts : Fld Z hs a cF "lefts" "[D" .null) (F_rights : Fld Z hs a cF "rights" "[D" .null) (V_ti : Arv Z hs ti ti_k .double ln lt dZ) (V_va : Arv Z hs va va_k .double ln lv dZ) (E_al : Exa Z hs al aL) (F_s : Fld Z hs al aL "size" "I" (.int (1 : Int32))) (F_e : Fld Z hs al aL "elementData" lO (.ref b)) (V_b : Arv Z hs b b_k (.object "java/lang/Object") (10 : Int32) [(.ref x1), .null, .null, .null, .null, .null, .null, .null, .null, .null] .null) (E_x1 : Exa Z hs x1 iN) (F_x1 : Fld Z hs x1 iN "value" "I" (.int ix1)) (g_a : n0 ≤ a) (ne_ti_a : ti ≠ a) (ne_va_a : va ≠ a) (ne_al_a : al ≠ a) (ne_b_a : b ≠ a) (ne_x1_a : x1 ≠ a) (hi1 : ¬ ix1 < 0 ∧ ix1 < ln) (ht1 : lt.getD (ix1).toNatClampNeg dZ = dV ta1) (he1 : ¬ (ln - (1 : Int32)) < 0 ∧ (ln - (1 : Int32)) < ln) (hc1 : lv.getD ((ln - (1 : Int32))).toNatClampNeg dZ = dV tc1) :
    ∃ (T1 : State) (lo1 : List Loc) (h1 : Heap) (di : Addr) (di_k : ClassId) (dl : Addr) (dl_k : ClassId) (dr : Addr) (dr_k : ClassId), Stand p l e R5_7_28_108 s m #[(.ref a), (.ref ti), (.ref va)] below meth c T1 lo1 7 22 ∧ Fr n0 lo1 ∧ T1.heap = h1 ∧ n0 ≤ h1.size ∧ Keep h0 h1 [a] ∧ Exa Z h1 a cF ∧ Fld Z h1 a cF "instants" "[D" (.ref di) ∧ Fld Z h1 a cF "lefts" "[D" (.ref dl) ∧ Fld Z h1 a cF "rights" "[D" (.ref dr) ∧ Arv Z h1 di di_k .double (1 : Int32) [(dV ta1)] dZ ∧ Arv Z h1 dl dl_k .double (1 : Int32) [dZ] dZ ∧ Arv Z h1 dr dr_k .double (1 : Int32) [(dV tc1)] dZ ∧ n0 ≤ di ∧ h0.size ≤ di ∧ n0 ≤ dl ∧ h0.size ≤ dl ∧ n0 ≤ dr ∧ h0.size ≤ dr ∧ Pr p e below (T0.setTop (mkF m 255 #[.val (.ref a), .val (.ref ti), .val (.ref va), .val (.ref al), .val (.int iz), .unset, .unset] [])) T1 (mkF m 409 #[.val (.ref a), .val (.ref ti), .val (.ref va), .val (.ref al), .val (.int (1 : Int32)), .val (.int ix1), .val (.int (ln - (1 : Int32)))] []) := by
 have pre0 : Pr p e below (T0.setTop (mkF m 255 #[.val (.ref a), .val (.ref ti), .val (.ref va), .val (.ref al), .val (.int iz), .unset, .unset] [])) T0 (mkF m 255 #[.val (.ref a), .val (.ref ti), .val (.ref va), .val (.ref al), .val (.int iz), .unset, .unset] []) := fun _ kk => kk
 generalize hI : T0.setTop (mkF m 255 #[.val (.ref a), .val (.ref ti), .val (.ref va), .val (.ref al), .val (.int iz), .unset, .unset] []) = I0 at pre0 ⊢
 obtain ⟨T12, lo12, Hc12, b2, b7, k2, k7, X12, N12, e12, Zs12, KC12, E_a_c12, F_rights_c12, V_ti_c12, V_va_c12, E_al_c12, F_s_c12, F_e_c12, V_b_c12, E_x1_c12, F_x1_c12, V_b2_c12, Fq4_c12, V_b7_c12, Fq9_c12, gnc12_1, gnc12_2, szc12_0, szc12_1, nesc12_5, nesc12_6, nesc12_7, nesc12_8, nesc12_9, nesc12_10, nesc12_11, nesc12_12, nesc12_13, nesc12_14, nesc12_15, nesc12_16, nesc12_17, pre12⟩ : ∃ (T12 : State) (lo12 : List Loc) (Hc12 : Heap) (b2 : Addr) (b7 : Addr) (k2 : ClassId) (k7 : ClassId), Stand p l e R5_7_28_108 s m #[(.ref a), (.ref ti), (.ref va)] below meth c T12 lo12 6 21 ∧ Fr n0 lo12 ∧ T12.heap = Hc12 ∧ n0 ≤ Hc12.size ∧ Keep h0 Hc12 [a] ∧ Exa Z Hc12 a cF ∧ Fld Z Hc12 a cF "rights" "[D" .null ∧ Arv Z Hc12 ti ti_k .double ln lt dZ ∧ Arv Z Hc12 va va_k .double ln lv dZ ∧ Exa Z Hc12 al aL ∧ Fld Z Hc12 al aL "size" "I" (.int (1 : Int32)) ∧ Fld Z Hc12 al aL "elementData" lO (.ref b) ∧ Arv Z Hc12 b b_k (.object "java/lang/Object") (10 : Int32) [(.ref x1), .null, .null, .null, .null, .null, .null, .null, .null, .null] .null ∧ Exa Z Hc12 x1 iN ∧ Fld Z Hc12 x1 iN "value" "I" (.int ix1) ∧ Arv Z Hc12 b2 k2 .double (1 : Int32) [dZ] dZ ∧ Fld Z Hc12 a cF "instants" "[D" (.ref b2) ∧ Arv Z Hc12 b7 k7 .double (1 : Int32) [dZ] dZ ∧ Fld Z Hc12 a cF "lefts" "[D" (.ref b7) ∧ n0 ≤ b2 ∧ n0 ≤ b7 ∧ h0.size ≤ b2 ∧ h0.size ≤ b7 ∧ a ≠ b2 ∧ ti ≠ b2 ∧ va ≠ b2 ∧ al ≠ b2 ∧ b ≠ b2 ∧ x1 ≠ b2 ∧ a ≠ b7 ∧ ti ≠ b7 ∧ va ≠ b7 ∧ al ≠ b7 ∧ b ≠ b7 ∧ x1 ≠ b7 ∧ b2 ≠ b7 ∧ Pr p e below I0 T12 (mkF m 279 #[.val (.ref a), .val (.ref ti), .val (.ref va), .val (.ref al), .val (.int iz), .unset, .unset] []) := by
  obtain ⟨cq1, kq1, q1a, q1b, q1c⟩ := isOf hZ e0 E_al
  obtain ⟨_, _, ⟨T1, L1, k1, n1⟩, -, X1, ⟨Lc1, hQ1, l1, y1, z1⟩, st1⟩ := X0.interfaceBack hx (xi := M16) (y := M4) hown (mvT hZ (tw47 hw)) (mvT hZ (tw48 hw)) (mvT hZ (tw49 hw)) (mvT hZ (tw50 hw)) (mvT hZ (tw51 hw)) (mvT hZ (tw52 hw)) (mvT hZ (tw53 hw)) (mvT hZ (tw54 hw)) (by decide) (backOf (W := 1) (rmSz l Z a0 hw [] al ((1 : Int32)) hs n0 Z0 F_s) hZ (tw55 hw) (tw25 hw) (by decide) (by decide)) q1a q1b q1c (g := (mkF m 257 #[.val (.ref a), .val (.ref ti), .val (.ref va), .val (.ref al), .val (.int iz), .unset, .unset] [(.ref al), (.ref a)])) rfl (by rw [hml]; rfl) (Steps.refl _) (argsL := []) (rest := [(.ref a)]) (lenOf pd___I rfl) rfl (own_mr rfl) (hb hby d1_257) (fun _ _ => ⟨rfl, e0, (by decide : 4 + 0 ≤ _), (by decide : 19 + 0 ≤ _)⟩)
  dsimp only [Pt.U, Pt.locs, Pt.cells, Pt.slots] at X1 l1 y1 z1 st1 hQ1
  rw [l1, y1, z1] at X1
  obtain ⟨rfl, N1q, hh1⟩ := hQ1
  have N1 := Fr.app N0 N1q
  obtain ⟨T2, h2, k2, X2, e2, E2, A2, Ex2, st2⟩ := newPE X1 hx hZ (aty := .double) (tw0 hw) hh1 (g := (mkF m 262 #[.val (.ref a), .val (.ref ti), .val (.ref va), .val (.ref al), .val (.int iz), .unset, .unset] [(.int (1 : Int32)), (.ref a)])) rfl (hb hby d1_262) rfl (by decide) (cap := 1) (by decide) (by decide) (by decide) (by decide) (ad := "[D") (by decide +kernel)
  obtain ⟨b2, g2⟩ : ∃ z, z = hs.size := ⟨_, rfl⟩
  rw [← g2] at A2 Ex2 st2
  have ne_a_b2 := own_ne E_a.lt g2
  have ne_ti_b2 := own_ne V_ti.lt g2
  have ne_va_b2 := own_ne V_va.lt g2
  have ne_al_b2 := own_ne E_al.lt g2
  have ne_b_b2 := own_ne V_b.lt g2
  have ne_x1_b2 := own_ne E_x1.lt g2
  have gn_b2 := own_le Z0 g2
  have sz_b2 := own_le KC0.1 g2
  replace E_a := E_a.ext E2
  replace F_instants := F_instants.ext E2
  replace F_lefts := F_lefts.ext E2
  replace F_rights := F_rights.ext E2
  replace V_ti := V_ti.ext E2
  replace V_va := V_va.ext E2
  replace E_al := E_al.ext E2
  replace F_s := F_s.ext E2
  replace F_e := F_e.ext E2
  replace V_b := V_b.ext E2
  replace E_x1 := E_x1.ext E2
  replace F_x1 := F_x1.ext E2
  have Zs3 := Nat.le_trans Z0 E2.1
  have KC3 := KC0.ext E2
  have V_b2 : Arv Z h2 b2 k2 .double (1 : Int32) [dZ] dZ := (Arv.newD A2 (by decide)).pad (pad_rep [] dZ 1)
  obtain ⟨T4, h4, X4, e4, W4, st4⟩ := putF X2 hx hZ hown (host := "") (Or.inl (tw58 hw)) Via.refl e2 F_instants E_a (Or.inr ⟨(tw59 hw), rfl, hnm⟩) (tw2 hw) (ty := (.array .double)) (by decide) rfl rfl (g := (mkF m 264 #[.val (.ref a), .val (.ref ti), .val (.ref va), .val (.ref al), .val (.int iz), .unset, .unset] [(.ref b2), (.ref a)])) rfl rfl (hb hby d1_264)
  have N4 := Fr.snoc X4 N1 g_a
  have Fq4 := F_instants.same W4
  replace E_a := E_a.wr W4
  replace F_lefts := F_lefts.other W4 (Or.inr (slot_ne (Or.inr (tw61 hw)) (Or.inr (tw59 hw)) (by decide) (t := (.array .double)) (t' := (.array .double)) (by decide) (by decide)))
  replace F_rights := F_rights.other W4 (Or.inr (slot_ne (Or.inr (tw63 hw)) (Or.inr (tw59 hw)) (by decide) (t := (.array .double)) (t' := (.array .double)) (by decide) (by decide)))
  replace V_ti := V_ti.other W4 ne_ti_a
  replace V_va := V_va.other W4 ne_va_a
  replace E_al := E_al.wr W4
  replace F_s := F_s.other W4 (Or.inl ne_al_a)
  replace F_e := F_e.other W4 (Or.inl ne_al_a)
  replace V_b := V_b.other W4 ne_b_a
  replace E_x1 := E_x1.wr W4
  replace F_x1 := F_x1.other W4 (Or.inl ne_x1_a)
  replace V_b2 := V_b2.other W4 (Ne.symm ne_a_b2)
  have Zs5 := Nat.le_trans Zs3 (Keep.of_wr W4).1
  have KC5 := KC3.wr W4 (Or.inl (List.mem_of_getElem? (i := 0) rfl))
  obtain ⟨cq6, kq6, q6a, q6b, q6c⟩ := isOf hZ e4 E_al
  obtain ⟨_, _, ⟨T6, L6, k6, n6⟩, -, X6, ⟨Lc6, hQ6, l6, y6, z6⟩, st6⟩ := X4.interfaceBack hx (xi := M16) (y := M4) hown (mvT hZ (tw47 hw)) (mvT hZ (tw48 hw)) (mvT hZ (tw49 hw)) (mvT hZ (tw50 hw)) (mvT hZ (tw51 hw)) (mvT hZ (tw52 hw)) (mvT hZ (tw53 hw)) (mvT hZ (tw54 hw)) (by decide) (backOf (W := 1) (rmSz l Z a0 hw [] al ((1 : Int32)) h4 n0 Zs5 F_s) hZ (tw55 hw) (tw25 hw) (by decide) (by decide)) q6a q6b q6c (g := (mkF m 269 #[.val (.ref a), .val (.ref ti), .val (.ref va), .val (.ref al), .val (.int iz), .unset, .unset] [(.ref al), (.ref a)])) rfl (by rw [hml]; rfl) (Steps.refl _) (argsL := []) (rest := [(.ref a)]) (lenOf pd___I rfl) rfl (own_mr rfl) (hb hby d1_269) (fun _ _ => ⟨rfl, e4, (by decide : 5 + 0 ≤ _), (by decide : 20 + 0 ≤ _)⟩)
  dsimp only [Pt.U, Pt.locs, Pt.cells, Pt.slots] at X6 l6 y6 z6 st6 hQ6
  rw [l6, y6, z6] at X6
  obtain ⟨rfl, N6q, hh6⟩ := hQ6
  have N6 := Fr.app N4 N6q
  obtain ⟨T7, h7, k7, X7, e7, E7, A7, Ex7, st7⟩ := newPE X6 hx hZ (aty := .double) (tw0 hw) hh6 (g := (mkF m 274 #[.val (.ref a), .val (.ref ti), .val (.ref va), .val (.ref al), .val (.int iz), .unset, .unset] [(.int (1 : Int32)), (.ref a)])) rfl (hb hby d1_274) rfl (by decide) (cap := 1) (by decide) (by decide) (by decide) (by decide) (ad := "[D") (by decide +kernel)
  obtain ⟨b7, g7⟩ : ∃ z, z = h4.size := ⟨_, rfl⟩
  rw [← g7] at A7 Ex7 st7
  have ne_a_b7 := own_ne E_a.lt g7
  have ne_ti_b7 := own_ne V_ti.lt g7
  have ne_va_b7 := own_ne V_va.lt g7
  have ne_al_b7 := own_ne E_al.lt g7
  have ne_b_b7 := own_ne V_b.lt g7
  have ne_x1_b7 := own_ne E_x1.lt g7
  have ne_b2_b7 := own_ne V_b2.lt g7
  have gn_b7 := own_le Zs5 g7
  have sz_b7 := own_le KC5.1 g7
  replace E_a := E_a.ext E7
  replace F_lefts := F_lefts.ext E7
  replace F_rights := F_rights.ext E7
  replace V_ti := V_ti.ext E7
  replace V_va := V_va.ext E7
  replace E_al := E_al.ext E7
  replace F_s := F_s.ext E7
  replace F_e := F_e.ext E7
  replace V_b := V_b.ext E7
  replace E_x1 := E_x1.ext E7
  replace F_x1 := F_x1.ext E7
  replace V_b2 := V_b2.ext E7
  replace Fq4 := Fq4.ext E7
  have Zs8 := Nat.le_trans Zs5 E7.1
  have KC8 := KC5.ext E7
  have V_b7 : Arv Z h7 b7 k7 .double (1 : Int32) [dZ] dZ := (Arv.newD A7 (by decide)).pad (pad_rep [] dZ 1)
  obtain ⟨T9, h9, X9, e9, W9, st9⟩ := putF X7 hx hZ hown (host := "") (Or.inl (tw60 hw)) Via.refl e7 F_lefts E_a (Or.inr ⟨(tw61 hw), rfl, hnm⟩) (tw2 hw) (ty := (.array .double)) (by decide) rfl rfl (g := (mkF m 276 #[.val (.ref a), .val (.ref ti), .val (.ref va), .val (.ref al), .val (.int iz), .unset, .unset] [(.ref b7), (.ref a)])) rfl rfl (hb hby d1_276)
  have N9 := Fr.snoc X9 N6 g_a
  have Fq9 := F_lefts.same W9
  replace E_a := E_a.wr W9
  replace F_rights := F_rights.other W9 (Or.inr (slot_ne (Or.inr (tw63 hw)) (Or.inr (tw61 hw)) (by decide) (t := (.array .double)) (t' := (.array .double)) (by decide) (by decide)))
  replace V_ti := V_ti.other W9 ne_ti_a
  replace V_va := V_va.other W9 ne_va_a
  replace E_al := E_al.wr W9
  replace F_s := F_s.other W9 (Or.inl ne_al_a)
  replace F_e := F_e.other W9 (Or.inl ne_al_a)
  replace V_b := V_b.other W9 ne_b_a
  replace E_x1 := E_x1.wr W9
  replace F_x1 := F_x1.other W9 (Or.inl ne_x1_a)
  replace V_b2 := V_b2.other W9 (Ne.symm ne_a_b2)
  replace Fq4 := Fq4.other W9 (Or.inr (slot_ne (Or.inr (tw59 hw)) (Or.inr (tw61 hw)) (by decide) (t := (.array .double)) (t' := (.array .double)) (by decide) (by decide)))
  replace V_b7 := V_b7.other W9 (Ne.symm ne_a_b7)
  have Zs10 := Nat.le_trans Zs8 (Keep.of_wr W9).1
  have KC10 := KC8.wr W9 (Or.inl (List.mem_of_getElem? (i := 0) rfl))
  have pre11 : Pr p e below I0 T9 (mkF m 279 #[.val (.ref a), .val (.ref ti), .val (.ref va), .val (.ref al), .val (.int iz), .unset, .unset] []) := by
   intro tg kk
   refine pre0 tg ?_
   refine XS.aloadN X0.here hx rfl (hb hby d1_255) rfl rfl ?_
   refine XS.aloadN X0.here hx rfl (hb hby d1_256) rfl rfl ?_
   refine st1.trans ?_
   refine st2 _ ?_
   refine st4 _ ?_
   refine XS.aloadN X4.here hx rfl (hb hby d1_267) rfl rfl ?_
   refine XS.aloadN X4.here hx rfl (hb hby d1_268) rfl rfl ?_
   refine st6.trans ?_
   refine st7 _ ?_
   refine st9 _ ?_
   exact kk
  exact ⟨T9, _, h9, b2, b7, k2, k7, X9, N9, e9, Zs10, KC10, E_a, F_rights, V_ti, V_va, E_al, F_s, F_e, V_b, E_x1, F_x1, V_b2, Fq4, V_b7, Fq9, gn_b2, gn_b7, sz_b2, sz_b7, ne_a_b2, ne_ti_b2, ne_va_b2, ne_al_b2, ne_b_b2, ne_x1_b2, ne_a_b7, ne_ti_b7, ne_va_b7, ne_al_b7, ne_b_b7, ne_x1_b7, ne_b2_b7, pre11⟩
 clear pre0 X0 N0 e0 KC0 Z0 E_a F_instants F_lefts F_rights V_ti V_va E_al F_s F_e V_b E_x1 F_x1
 obtain ⟨T35, lo35, Hc35, b14, k14, X35, N35, e35, Zs35, KC35, E_a_c35, V_va_c35, E_al_c35, F_s_c35, Fq4_c35, Fq9_c35, V_b14_c35, Fq16_c35, Vq28_c35, Vq32_c35, gnc35_3, szc35_2, nesc35_18, nesc35_19, nesc35_20, nesc35_21, nesc35_24, nesc35_25, pre35⟩ : ∃ (T35 : State) (lo35 : List Loc) (Hc35 : Heap) (b14 : Addr) (k14 : ClassId), Stand p l e R5_7_28_108 s m #[(.ref a), (.ref ti), (.ref va)] below meth c T35 lo35 7 22 ∧ Fr n0 lo35 ∧ T35.heap = Hc35 ∧ n0 ≤ Hc35.size ∧ Keep h0 Hc35 [a] ∧ Exa Z Hc35 a cF ∧ Arv Z Hc35 va va_k .double ln lv dZ ∧ Exa Z Hc35 al aL ∧ Fld Z Hc35 al aL "size" "I" (.int (1 : Int32)) ∧ Fld Z Hc35 a cF "instants" "[D" (.ref b2) ∧ Fld Z Hc35 a cF "lefts" "[D" (.ref b7) ∧ Arv Z Hc35 b14 k14 .double (1 : Int32) [dZ] dZ ∧ Fld Z Hc35 a cF "rights" "[D" (.ref b14) ∧ Arv Z Hc35 b2 k2 .double (1 : Int32) [(dV ta1)] dZ ∧ Arv Z Hc35 b7 k7 .double (1 : Int32) [dZ] dZ ∧ n0 ≤ b14 ∧ h0.size ≤ b14 ∧ a ≠ b14 ∧ ti ≠ b14 ∧ va ≠ b14 ∧ al ≠ b14 ∧ b2 ≠ b14 ∧ b7 ≠ b14 ∧ Pr p e below I0 T35 (mkF m 392 #[.val (.ref a), .val (.ref ti), .val (.ref va), .val (.ref al), .val (.int (0 : Int32)), .val (.int ix1), .val (.int (ln - (1 : Int32)))] []) := by
  obtain ⟨cq13, kq13, q13a, q13b, q13c⟩ := isOf hZ e12 E_al_c12
  obtain ⟨_, _, ⟨T13, L13, k13, n13⟩, -, X13, ⟨Lc13, hQ13, l13, y13, z13⟩, st13⟩ := X12.interfaceBack hx (xi := M16) (y := M4) hown (mvT hZ (tw47 hw)) (mvT hZ (tw48 hw)) (mvT hZ (tw49 hw)) (mvT hZ (tw50 hw)) (mvT hZ (tw51 hw)) (mvT hZ (tw52 hw)) (mvT hZ (tw53 hw)) (mvT hZ (tw54 hw)) (by decide) (backOf (W := 1) (rmSz l Z a0 hw [] al ((1 : Int32)) Hc12 n0 Zs12 F_s_c12) hZ (tw55 hw) (tw25 hw) (by decide) (by decide)) q13a q13b q13c (g := (mkF m 281 #[.val (.ref a), .val (.ref ti), .val (.ref va), .val (.ref al), .val (.int iz), .unset, .unset] [(.ref al), (.ref a)])) rfl (by rw [hml]; rfl) (Steps.refl _) (argsL := []) (rest := [(.ref a)]) (lenOf pd___I rfl) rfl (own_mr rfl) (hb hby d1_281) (fun _ _ => ⟨rfl, e12, (by decide : 6 + 0 ≤ _), (by decide : 21 + 0 ≤ _)⟩)
  dsimp only [Pt.U, Pt.locs, Pt.cells, Pt.slots] at X13 l13 y13 z13 st13 hQ13
  rw [l13, y13, z13] at X13
  obtain ⟨rfl, N13q, hh13⟩ := hQ13
  have N13 := Fr.app N12 N13q
  obtain ⟨T14, h14, k14, X14, e14, E14, A14, Ex14, st14⟩ := newPE X13 hx hZ (aty := .double) (tw0 hw) hh13 (g := (mkF m 286 #[.val (.ref a), .val (.ref ti), .val (.ref va), .val (.ref al), .val (.int iz), .unset, .unset] [(.int (1 : Int32)), (.ref a)])) rfl (hb hby d1_286) rfl (by decide) (cap := 1) (by decide) (by decide) (by decide) (by decide) (ad := "[D") (by decide +kernel)
  obtain ⟨b14, g14⟩ : ∃ z, z = Hc12.size := ⟨_, rfl⟩
  rw [← g14] at A14 Ex14 st14
  have ne_a_b14 := own_ne E_a_c12.lt g14
  have ne_ti_b14 := own_ne V_ti_c12.lt g14
  have ne_va_b14 := own_ne V_va_c12.lt g14
  have ne_al_b14 := own_ne E_al_c12.lt g14
  have ne_b_b14 := own_ne V_b_c12.lt g14
  have ne_x1_b14 := own_ne E_x1_c12.lt g14
  have ne_b2_b14 := own_ne V_b2_c12.lt g14
  have ne_b7_b14 := own_ne V_b7_c12.lt g14
  have gn_b14 := own_le Zs12 g14
  have sz_b14 := own_le KC12.1 g14
  replace E_a_c12 := E_a_c12.ext E14
  replace F_rights_c12 := F_rights_c12.ext E14
  replace V_ti_c12 := V_ti_c12.ext E14
  replace V_va_c12 := V_va_c12.ext E14
  replace E_al_c12 := E_al_c12.ext E14
  replace F_s_c12 := F_s_c12.ext E14
  replace F_e_c12 := F_e_c12.ext E14
  replace V_b_c12 := V_b_c12.ext E14
  replace E_x1_c12 := E_x1_c12.ext E14
  replace F_x1_c12 := F_x1_c12.ext E14
  replace V_b2_c12 := V_b2_c12.ext E14
  replace Fq4_c12 := Fq4_c12.ext E14
  replace V_b7_c12 := V_b7_c12.ext E14
  replace Fq9_c12 := Fq9_c12.ext E14
  have Zs15 := Nat.le_trans Zs12 E14.1
  have KC15 := KC12.ext E14
  have V_b14 : Arv Z h14 b14 k14 .double (1 : Int32) [dZ] dZ := (Arv.newD A14 (by decide)).pad (pad_rep [] dZ 1)
  obtain ⟨T16, h16, X16, e16, W16, st16⟩ := putF X14 hx hZ hown (host := "") (Or.inl (tw62 hw)) Via.refl e14 F_rights_c12 E_a_c12 (Or.inr ⟨(tw63 hw), rfl, hnm⟩) (tw2 hw) (ty := (.array .double)) (by decide) rfl rfl (g := (mkF m 288 #[.val (.ref a), .val (.ref ti), .val (.ref va), .val (.ref al), .val (.int iz), .unset, .unset] [(.ref b14), (.ref a)])) rfl rfl (hb hby d1_288)
  have N16 := Fr.snoc X16 N13 g_a
  have Fq16 := F_rights_c12.same W16
  replace E_a_c12 := E_a_c12.wr W16
  replace V_ti_c12 := V_ti_c12.other W16 ne_ti_a
  replace V_va_c12 := V_va_c12.other W16 ne_va_a
  replace E_al_c12 := E_al_c12.wr W16
  replace F_s_c12 := F_s_c12.other W16 (Or.inl ne_al_a)
  replace F_e_c12 := F_e_c12.other W16 (Or.inl ne_al_a)
  replace V_b_c12 := V_b_c12.other W16 ne_b_a
  replace E_x1_c12 := E_x1_c12.wr W16
  replace F_x1_c12 := F_x1_c12.other W16 (Or.inl ne_x1_a)
  replace V_b2_c12 := V_b2_c12.other W16 (Ne.symm nesc12_5)
  replace Fq4_c12 := Fq4_c12.other W16 (Or.inr (slot_ne (Or.inr (tw59 hw)) (Or.inr (tw63 hw)) (by decide) (t := (.array .double)) (t' := (.array .double)) (by decide) (by decide)))
  replace V_b7_c12 := V_b7_c12.other W16 (Ne.symm nesc12_11)
  replace Fq9_c12 := Fq9_c12.other W16 (Or.inr (slot_ne (Or.inr (tw61 hw)) (Or.inr (tw63 hw)) (by decide) (t := (.array .double)) (t' := (.array .double)) (by decide) (by decide)))
  replace V_b14 := V_b14.other W16 (Ne.symm ne_a_b14)
  have Zs17 := Nat.le_trans Zs15 (Keep.of_wr W16).1
  have KC17 := KC15.wr W16 (Or.inl (List.mem_of_getElem? (i := 0) rfl))
  obtain ⟨cq18, kq18, q18a, q18b, q18c⟩ := isOf hZ e16 E_al_c12
  obtain ⟨_, _, ⟨T18, L18, k18, n18⟩, -, X18, ⟨Lc18, hQ18, l18, y18, z18⟩, st18⟩ := X16.interfaceBack hx (xi := M16) (y := M4) hown (mvT hZ (tw47 hw)) (mvT hZ (tw48 hw)) (mvT hZ (tw49 hw)) (mvT hZ (tw50 hw)) (mvT hZ (tw51 hw)) (mvT hZ (tw52 hw)) (mvT hZ (tw53 hw)) (mvT hZ (tw54 hw)) (by decide) (backOf (W := 1) (rmSz l Z a0 hw [] al ((1 : Int32)) h16 n0 Zs17 F_s_c12) hZ (tw55 hw) (tw25 hw) (by decide) (by decide)) q18a q18b q18c (g := (mkF m 297 #[.val (.ref a), .val (.ref ti), .val (.ref va), .val (.ref al), .val (.int (0 : Int32)), .unset, .unset] [(.ref al), (.int (0 : Int32))])) rfl (by rw [hml]; rfl) (Steps.refl _) (argsL := []) (rest := [(.int (0 : Int32))]) (lenOf pd___I rfl) rfl (own_mr rfl) (hb hby d1_297) (fun _ _ => ⟨rfl, e16, (by decide : 7 + 0 ≤ _), (by decide : 22 + 0 ≤ _)⟩)
  dsimp only [Pt.U, Pt.locs, Pt.cells, Pt.slots] at X18 l18 y18 z18 st18 hQ18
  rw [l18, y18, z18] at X18
  obtain ⟨rfl, N18q, hh18⟩ := hQ18
  have N18 := Fr.app N16 N18q
  obtain ⟨cq19, kq19, q19a, q19b, q19c⟩ := isOf hZ hh18 E_al_c12
  obtain ⟨_, _, ⟨T19, L19, k19, n19⟩, -, X19, ⟨Lc19, hQ19, l19, y19, z19⟩, st19⟩ := X18.interfaceBack hx (xi := M17) (y := M15) hown (mvT hZ (tw120 hw)) (mvT hZ (tw121 hw)) (mvT hZ (tw122 hw)) (mvT hZ (tw123 hw)) (mvT hZ (tw124 hw)) (mvT hZ (tw125 hw)) (mvT hZ (tw126 hw)) (mvT hZ (tw54 hw)) (by decide) (backOf (W := 0) (rmGt l Z a0 hw [] al b b_k ((0 : Int32)) ([(.ref x1), .null, .null, .null, .null, .null, .null, .null, .null, .null]) x1 ((1 : Int32)) h16 n0 Zs17 E_al_c12 F_s_c12 F_e_c12 V_b_c12 (by decide) (by decide) rfl) hZ (tw127 hw) (tw25 hw) (by decide) (by decide)) q19a q19b q19c (g := (mkF m 308 #[.val (.ref a), .val (.ref ti), .val (.ref va), .val (.ref al), .val (.int (0 : Int32)), .unset, .unset] [(.int (0 : Int32)), (.ref al)])) rfl (by rw [hml]; rfl) (Steps.refl _) (argsL := [(.int (0 : Int32))]) (rest := []) (lenOf pd__I_Ljava_lang_Object_ rfl) rfl (own_mr rfl) (hb hby d1_308) (fun _ _ => ⟨rfl, hh18, (by decide : 7 + 0 ≤ _), (by decide : 22 + 0 ≤ _)⟩)
  dsimp only [Pt.U, Pt.locs, Pt.cells, Pt.slots] at X19 l19 y19 z19 st19 hQ19
  rw [l19, y19, z19] at X19
  obtain ⟨rfl, N19q, hh19⟩ := hQ19
  have N19 := Fr.app N18 N19q
  obtain ⟨T20, X20, e20, st20⟩ := castY X19 hx hZ hown (tw141 hw) hh19 (Ins.self E_x1_c12) (g := (mkF m 313 #[.val (.ref a), .val (.ref ti), .val (.ref va), .val (.ref al), .val (.int (0 : Int32)), .unset, .unset] [(.ref x1)])) rfl rfl (hb hby d1_313)
  obtain ⟨cq21, kq21, q21a, q21b, q21c⟩ := isOf hZ e20 E_x1_c12
  obtain ⟨_, _, ⟨T21, L21, k21, n21⟩, -, X21, ⟨Lc21, hQ21, l21, y21, z21⟩, st21⟩ := X20.virtualBack hx (y := M11) (z := M11) hown (mvT hZ (tw143 hw)) (mvT hZ (tw144 hw)) (notFace_of_selects (args := #[]) (mvT hZ (tw146 hw))) (mvT hZ (tw146 hw)) (mvT hZ (tw145 hw)) (by decide) (backOf (W := 0) (rmIV l Z a0 hw [] x1 ix1 h16 n0 Zs17 F_x1_c12) hZ (tw147 hw) (tw84 hw) (by decide) (by decide)) q21a q21c (g := (mkF m 316 #[.val (.ref a), .val (.ref ti), .val (.ref va), .val (.ref al), .val (.int (0 : Int32)), .unset, .unset] [(.ref x1)])) rfl (by rw [hml]; rfl) (Steps.refl _) (argsL := []) (rest := []) (lenOf pd___I rfl) rfl (own_mr rfl) (hb hby d1_316) (fun _ _ => ⟨rfl, e20, (by decide : 7 + 0 ≤ _), (by decide : 22 + 0 ≤ _)⟩)
  dsimp only [Pt.U, Pt.locs, Pt.cells, Pt.slots] at X21 l21 y21 z21 st21 hQ21
  rw [l21, y21, z21] at X21
  obtain ⟨rfl, N21q, hh21⟩ := hQ21
  have N21 := Fr.app N19 N21q
  obtain ⟨cq22, kq22, q22a, q22b, q22c⟩ := isOf hZ hh21 E_al_c12
  obtain ⟨_, _, ⟨T22, L22, k22, n22⟩, -, X22, ⟨Lc22, hQ22, l22, y22, z22⟩, st22⟩ := X21.interfaceBack hx (xi := M16) (y := M4) hown (mvT hZ (tw47 hw)) (mvT hZ (tw48 hw)) (mvT hZ (tw49 hw)) (mvT hZ (tw50 hw)) (mvT hZ (tw51 hw)) (mvT hZ (tw52 hw)) (mvT hZ (tw53 hw)) (mvT hZ (tw54 hw)) (by decide) (backOf (W := 1) (rmSz l Z a0 hw [] al ((1 : Int32)) h16 n0 Zs17 F_s_c12) hZ (tw55 hw) (tw25 hw) (by decide) (by decide)) q22a q22b q22c (g := (mkF m 326 #[.val (.ref a), .val (.ref ti), .val (.ref va), .val (.ref al), .val (.int (0 : Int32)), .val (.int ix1), .unset] [(.ref al), (.int (1 : Int32))])) rfl (by rw [hml]; rfl) (Steps.refl _) (argsL := []) (rest := [(.int (1 : Int32))]) (lenOf pd___I rfl) rfl (own_mr rfl) (hb hby d1_326) (fun _ _ => ⟨rfl, hh21, (by decide : 7 + 0 ≤ _), (by decide : 22 + 0 ≤ _)⟩)
  dsimp only [Pt.U, Pt.locs, Pt.cells, Pt.slots] at X22 l22 y22 z22 st22 hQ22
  rw [l22, y22, z22] at X22
  obtain ⟨rfl, N22q, hh22⟩ := hQ22
  have N22 := Fr.app N21 N22q
  obtain ⟨cl23, Ar23, aq23, aS23, aN23, aH23, aG23⟩ := id V_ti_c12
  obtain ⟨T24, X24, e24, st24⟩ := getF X22 hx hZ hown (host := "") (Or.inl (tw58 hw)) Via.refl hh22 Fq4_c12 (g := (mkF m 362 #[.val (.ref a), .val (.ref ti), .val (.ref va), .val (.ref al), .val (.int (0 : Int32)), .val (.int ix1), .val (.int (ln - (1 : Int32)))] [(.ref a)])) rfl rfl (hb hby d1_362)
  obtain ⟨cl25, Ar25, aq25, aS25, aN25, aH25, aG25⟩ := id V_ti_c12
  have hin26 : ¬ (ix1 < 0 ∨ cl25.slots.size ≤ (ix1).toNatClampNeg) := inb_of aS25 hi1
  have hat26 : cl25.slots[(ix1).toNatClampNeg]? = some (dV ta1) := Has.at aH25 hin26 ht1
  obtain ⟨cl27, Ar27, aq27, aS27, aN27, aH27, aG27⟩ := id V_b2_c12
  have hin28 : ¬ ((0 : Int32) < 0 ∨ cl27.slots.size ≤ ((0 : Int32)).toNatClampNeg) := inb_of aS27 ⟨by decide, by decide⟩
  obtain ⟨T28, h28, X28, e28, W28, st28⟩ := stD X24 hx hZ e24 Ar27 (j := (0 : Int32)) hin28 (g := (mkF m 371 #[.val (.ref a), .val (.ref ti), .val (.ref va), .val (.ref al), .val (.int (0 : Int32)), .val (.int ix1), .val (.int (ln - (1 : Int32)))] [(dV ta1), (.int (0 : Int32)), (.ref b2)])) rfl rfl (hb hby d1_371)
  have N28 := Fr.snoc X28 N22 gnc12_1
  have Vq28 : Arv Z h28 b2 k2 .double (1 : Int32) [(dV ta1)] dZ := Arv.set Ar27 aq27 aS27 aN27 aH27 aG27 rfl W28 0 rfl (Nat.le_of_ble_eq_true rfl)
  replace E_a_c12 := E_a_c12.wr W28
  replace V_va_c12 := V_va_c12.other W28 nesc12_7
  replace E_al_c12 := E_al_c12.wr W28
  replace F_s_c12 := F_s_c12.other W28 (Or.inl nesc12_8)
  replace Fq4_c12 := Fq4_c12.other W28 (Or.inl nesc12_5)
  replace V_b7_c12 := V_b7_c12.other W28 (Ne.symm nesc12_17)
  replace Fq9_c12 := Fq9_c12.other W28 (Or.inl nesc12_5)
  replace V_b14 := V_b14.other W28 (Ne.symm ne_b2_b14)
  replace Fq16 := Fq16.other W28 (Or.inl nesc12_5)
  have Zs29 := Nat.le_trans Zs17 (Keep.of_wr W28).1
  have KC29 := KC17.wr W28 (Or.inr szc12_0)
  obtain ⟨T30, X30, e30, st30⟩ := getF X28 hx hZ hown (host := "") (Or.inl (tw60 hw)) Via.refl e28 Fq9_c12 (g := (mkF m 373 #[.val (.ref a), .val (.ref ti), .val (.ref va), .val (.ref al), .val (.int (0 : Int32)), .val (.int ix1), .val (.int (ln - (1 : Int32)))] [(.ref a)])) rfl rfl (hb hby d1_373)
  obtain ⟨cl31, Ar31, aq31, aS31, aN31, aH31, aG31⟩ := id V_b7_c12
  have hin32 : ¬ ((0 : Int32) < 0 ∨ cl31.slots.size ≤ ((0 : Int32)).toNatClampNeg) := inb_of aS31 ⟨by decide, by decide⟩
  obtain ⟨T32, h32, X32, e32, W32, st32⟩ := stD X30 hx hZ e30 Ar31 (j := (0 : Int32)) hin32 (g := (mkF m 391 #[.val (.ref a), .val (.ref ti), .val (.ref va), .val (.ref al), .val (.int (0 : Int32)), .val (.int ix1), .val (.int (ln - (1 : Int32)))] [dZ, (.int (0 : Int32)), (.ref b7)])) rfl rfl (hb hby d1_391)
  have N32 := Fr.snoc X32 N28 gnc12_2
  have Vq32 : Arv Z h32 b7 k7 .double (1 : Int32) [dZ] dZ := Arv.set Ar31 aq31 aS31 aN31 aH31 aG31 rfl W32 0 rfl (Nat.le_of_ble_eq_true rfl)
  replace E_a_c12 := E_a_c12.wr W32
  replace V_va_c12 := V_va_c12.other W32 nesc12_13
  replace E_al_c12 := E_al_c12.wr W32
  replace F_s_c12 := F_s_c12.other W32 (Or.inl nesc12_14)
  replace Fq4_c12 := Fq4_c12.other W32 (Or.inl nesc12_11)
  replace Fq9_c12 := Fq9_c12.other W32 (Or.inl nesc12_11)
  replace V_b14 := V_b14.other W32 (Ne.symm ne_b7_b14)
  replace Fq16 := Fq16.other W32 (Or.inl nesc12_11)
  replace Vq28 := Vq28.other W32 nesc12_17
  have Zs33 := Nat.le_trans Zs29 (Keep.of_wr W32).1
  have KC33 := KC29.wr W32 (Or.inr szc12_1)
  have pre34 : Pr p e below I0 T32 (mkF m 392 #[.val (.ref a), .val (.ref ti), .val (.ref va), .val (.ref al), .val (.int (0 : Int32)), .val (.int ix1), .val (.int (ln - (1 : Int32)))] []) := by
   intro tg kk
   refine pre12 tg ?_
   refine XS.aloadN X12.here hx rfl (hb hby d1_279) rfl rfl ?_
   refine XS.aloadN X12.here hx rfl (hb hby d1_280) rfl rfl ?_
   refine st13.trans ?_
   refine st14 _ ?_
   refine st16 _ ?_
   refine XS.iconst X16.here hx rfl (hb hby d1_291) ?_
   refine XS.istore X16.here hx rfl (hb hby d1_292) rfl (l' := #[.val (.ref a), .val (.ref ti), .val (.ref va), .val (.ref al), .val (.int (0 : Int32)), .unset, .unset]) rfl ?_
   refine XS.iload X16.here hx rfl (hb hby d1_294) rfl ?_
   refine XS.aloadN X16.here hx rfl (hb hby d1_296) rfl rfl ?_
   refine st18.trans ?_
   refine XS.icmpNo X18.here hx rfl (hb hby d1_302) rfl (XT.ii_ge_f (by decide)) ?_
   refine XS.aloadN X18.here hx rfl (hb hby d1_305) rfl rfl ?_
   refine XS.iload X18.here hx rfl (hb hby d1_306) rfl ?_
   refine st19.trans ?_
   refine st20 _ ?_
   refine st21.trans ?_
   refine XS.istore X21.here hx rfl (hb hby d1_319) rfl (l' := #[.val (.ref a), .val (.ref ti), .val (.ref va), .val (.ref al), .val (.int (0 : Int32)), .val (.int ix1), .unset]) rfl ?_
   refine XS.iload X21.here hx rfl (hb hby d1_321) rfl ?_
   refine XS.iconst X21.here hx rfl (hb hby d1_323) ?_
   refine XS.iadd X21.here hx rfl (hb hby d1_324) rfl ?_
   refine XS.aloadN X21.here hx rfl (hb hby d1_325) rfl rfl ?_
   refine st22.trans ?_
   refine XS.icmpYes X22.here hx rfl (pc0 := 331) (pc' := 355) rfl (hb hby d1_331) rfl (XT.ii_ge_t (by decide)) (by decide) (by decide) ?_
   refine XS.aloadN X22.here hx rfl (hb hby d1_355) rfl rfl ?_
   refine X22.arraylength hx (by rw [hh22]; exact Ar23.1) (State.isArrayOf_alike hZ.alike Ar23.2.1) (g := (mkF m 356 #[.val (.ref a), .val (.ref ti), .val (.ref va), .val (.ref al), .val (.int (0 : Int32)), .val (.int ix1), .unset] [(.ref ti)])) rfl rfl (hb hby d1_356) _ ?_
   rw [len_of aS23 aN23]
   refine XS.iconst X22.here hx rfl (hb hby d1_357) ?_
   refine XS.isub X22.here hx rfl (hb hby d1_358) rfl ?_
   refine XS.istore X22.here hx rfl (hb hby d1_359) rfl (l' := #[.val (.ref a), .val (.ref ti), .val (.ref va), .val (.ref al), .val (.int (0 : Int32)), .val (.int ix1), .val (.int (ln - (1 : Int32)))]) rfl ?_
   refine XS.aloadN X22.here hx rfl (hb hby d1_361) rfl rfl ?_
   refine st24 _ ?_
   refine XS.iload X24.here hx rfl (hb hby d1_365) rfl ?_
   refine XS.aloadN X24.here hx rfl (hb hby d1_367) rfl rfl ?_
   refine XS.iload X24.here hx rfl (hb hby d1_368) rfl ?_
   refine X24.daload hx (j := ix1) (v := (dV ta1)) (by rw [e24]; exact Ar25.1) (State.isArrayOf_alike hZ.alike Ar25.2.1) Ar25.2.2 hin26 hat26 (g := (mkF m 370 #[.val (.ref a), .val (.ref ti), .val (.ref va), .val (.ref al), .val (.int (0 : Int32)), .val (.int ix1), .val (.int (ln - (1 : Int32)))] [(.int ix1), (.ref ti), (.int (0 : Int32)), (.ref b2)])) rfl rfl (hb hby d1_370) _ ?_
   refine st28 _ ?_
   refine XS.aloadN X28.here hx rfl (hb hby d1_372) rfl rfl ?_
   refine st30 _ ?_
   refine XS.iload X30.here hx rfl (hb hby d1_376) rfl ?_
   refine XS.iload X30.here hx rfl (hb hby d1_378) rfl ?_
   refine XS.ifNo X30.here hx rfl (hb hby d1_380) rfl (XT.i0_ne_f (by decide)) ?_
   refine XS.dconst0 X30.here hx rfl (v := FP.l2d (0 : Int64)) (hb hby d1_383) own_dc0 ?_
   refine XS.goto X30.here hx rfl (pc0 := 384) (pc' := 391) rfl (hb hby d1_384) (by decide) (by decide) ?_
   refine st32 _ ?_
   exact kk
  exact ⟨T32, _, h32, b14, k14, X32, N32, e32, Zs33, KC33, E_a_c12, V_va_c12, E_al_c12, F_s_c12, Fq4_c12, Fq9_c12, V_b14, Fq16, Vq28, Vq32, gn_b14, sz_b14, ne_a_b14, ne_ti_b14, ne_va_b14, ne_al_b14, ne_b2_b14, ne_b7_b14, pre34⟩
 clear pre12 X12 N12 e12 KC12 Zs12 E_a_c12 F_rights_c12 V_ti_c12 V_va_c12 E_al_c12 F_s_c12 F_e_c12 V_b_c12 E_x1_c12 F_x1_c12 V_b2_c12 Fq4_c12 V_b7_c12 Fq9_c12
 obtain ⟨T36, X36, e36, st36⟩ := getF X35 hx hZ hown (host := "") (Or.inl (tw62 hw)) Via.refl e35 Fq16_c35 (g := (mkF m 393 #[.val (.ref a), .val (.ref ti), .val (.ref va), .val (.ref al), .val (.int (0 : Int32)), .val (.int ix1), .val (.int (ln - (1 : Int32)))] [(.ref a)])) rfl rfl (hb hby d1_393)
 obtain ⟨cl37, Ar37, aq37, aS37, aN37, aH37, aG37⟩ := id V_va_c35
 have hin38 : ¬ ((ln - (1 : Int32)) < 0 ∨ cl37.slots.size ≤ ((ln - (1 : Int32))).toNatClampNeg) := inb_of aS37 he1
 have hat38 : cl37.slots[((ln - (1 : Int32))).toNatClampNeg]? = some (dV tc1) := Has.at aH37 hin38 hc1
 obtain ⟨cl39, Ar39, aq39, aS39, aN39, aH39, aG39⟩ := id V_b14_c35
 have hin40 : ¬ ((0 : Int32) < 0 ∨ cl39.slots.size ≤ ((0 : Int32)).toNatClampNeg) := inb_of aS39 ⟨by decide, by decide⟩
 obtain ⟨T40, h40, X40, e40, W40, st40⟩ := stD X36 hx hZ e36 Ar39 (j := (0 : Int32)) hin40 (g := (mkF m 402 #[.val (.ref a), .val (.ref ti), .val (.ref va), .val (.ref al), .val (.int (0 : Int32)), .val (.int ix1), .val (.int (ln - (1 : Int32)))] [(dV tc1), (.int (0 : Int32)), (.ref b14)])) rfl rfl (hb hby d1_402)
 have N40 := Fr.snoc X40 N35 gnc35_3
 have Vq40 : Arv Z h40 b14 k14 .double (1 : Int32) [(dV tc1)] dZ := Arv.set Ar39 aq39 aS39 aN39 aH39 aG39 rfl W40 0 rfl (Nat.le_of_ble_eq_true rfl)
 replace E_a_c35 := E_a_c35.wr W40
 replace E_al_c35 := E_al_c35.wr W40
 replace F_s_c35 := F_s_c35.other W40 (Or.inl nesc35_21)
 replace Fq4_c35 := Fq4_c35.other W40 (Or.inl nesc35_18)
 replace Fq9_c35 := Fq9_c35.other W40 (Or.inl nesc35_18)
 replace Fq16_c35 := Fq16_c35.other W40 (Or.inl nesc35_18)
 replace Vq28_c35 := Vq28_c35.other W40 nesc35_24
 replace Vq32_c35 := Vq32_c35.other W40 nesc35_25
 have Zs41 := Nat.le_trans Zs35 (Keep.of_wr W40).1
 have KC41 := KC35.wr W40 (Or.inr szc35_2)
 obtain ⟨cq42, kq42, q42a, q42b, q42c⟩ := isOf hZ e40 E_al_c35
 obtain ⟨_, _, ⟨T42, L42, k42, n42⟩, -, X42, ⟨Lc42, hQ42, l42, y42, z42⟩, st42⟩ := X40.interfaceBack hx (xi := M16) (y := M4) hown (mvT hZ (tw47 hw)) (mvT hZ (tw48 hw)) (mvT hZ (tw49 hw)) (mvT hZ (tw50 hw)) (mvT hZ (tw51 hw)) (mvT hZ (tw52 hw)) (mvT hZ (tw53 hw)) (mvT hZ (tw54 hw)) (by decide) (backOf (W := 1) (rmSz l Z a0 hw [] al ((1 : Int32)) h40 n0 Zs41 F_s_c35) hZ (tw55 hw) (tw25 hw) (by decide) (by decide)) q42a q42b q42c (g := (mkF m 297 #[.val (.ref a), .val (.ref ti), .val (.ref va), .val (.ref al), .val (.int (1 : Int32)), .val (.int ix1), .val (.int (ln - (1 : Int32)))] [(.ref al), (.int (1 : Int32))])) rfl (by rw [hml]; rfl) (Steps.refl _) (argsL := []) (rest := [(.int (1 : Int32))]) (lenOf pd___I rfl) rfl (own_mr rfl) (hb hby d1_297) (fun _ _ => ⟨rfl, e40, (by decide : 7 + 0 ≤ _), (by decide : 22 + 0 ≤ _)⟩)
 dsimp only [Pt.U, Pt.locs, Pt.cells, Pt.slots] at X42 l42 y42 z42 st42 hQ42
 rw [l42, y42, z42] at X42
 obtain ⟨rfl, N42q, hh42⟩ := hQ42
 have N42 := Fr.app N40 N42q
 have pre43 : Pr p e below I0 T42 (mkF m 409 #[.val (.ref a), .val (.ref ti), .val (.ref va), .val (.ref al), .val (.int (1 : Int32)), .val (.int ix1), .val (.int (ln - (1 : Int32)))] []) := by
  intro tg kk
  refine pre35 tg ?_
  refine XS.aloadN X35.here hx rfl (hb hby d1_392) rfl rfl ?_
  refine st36 _ ?_
  refine XS.iload X36.here hx rfl (hb hby d1_396) rfl ?_
  refine XS.aloadN X36.here hx rfl (hb hby d1_398) rfl rfl ?_
  refine XS.iload X36.here hx rfl (hb hby d1_399) rfl ?_
  refine X36.daload hx (j := (ln - (1 : Int32))) (v := (dV tc1)) (by rw [e36]; exact Ar37.1) (State.isArrayOf_alike hZ.alike Ar37.2.1) Ar37.2.2 hin38 hat38 (g := (mkF m 401 #[.val (.ref a), .val (.ref ti), .val (.ref va), .val (.ref al), .val (.int (0 : Int32)), .val (.int ix1), .val (.int (ln - (1 : Int32)))] [(.int (ln - (1 : Int32))), (.ref va), (.int (0 : Int32)), (.ref b14)])) rfl rfl (hb hby d1_401) _ ?_
  refine st40 _ ?_
  refine XS.iinc X40.here hx rfl (hb hby d1_403) rfl (l' := #[.val (.ref a), .val (.ref ti), .val (.ref va), .val (.ref al), .val (.int (1 : Int32)), .val (.int ix1), .val (.int (ln - (1 : Int32)))]) rfl ?_
  refine XS.goto X40.here hx rfl (pc0 := 406) (pc' := 294) rfl (hb hby d1_406) (by decide) (by decide) ?_
  refine XS.iload X40.here hx rfl (hb hby d1_294) rfl ?_
  refine XS.aloadN X40.here hx rfl (hb hby d1_296) rfl rfl ?_
  refine st42.trans ?_
  refine XS.icmpYes X42.here hx rfl (pc0 := 302) (pc' := 409) rfl (hb hby d1_302) rfl (XT.ii_ge_t (by decide)) (by decide) (by decide) ?_
  exact kk
 exact ⟨T42, _, h40, b2, k2, b7, k7, b14, k14, X42, N42, hh42, Zs41, KC41, E_a_c35, Fq4_c35, Fq9_c35, Fq16_c35, Vq28_c35, Vq32_c35, Vq40, gnc12_1, szc12_0, gnc12_2, szc12_1, gnc35_3, szc35_2, pre43⟩
theorem d1_334 : decode cp_37_1 334 = .ok (.aload_n 3, 1) := by decide +kernel
theorem d1_335 : decode cp_37_1 335 = .ok (.iload 4, 2) := by decide +kernel
theorem d1_337 : decode cp_37_1 337 = .ok (.iconst 1, 1) := by decide +kernel
theorem d1_338 : decode cp_37_1 338 = .ok (.iadd, 1) := by decide +kernel
theorem d1_339 : decode cp_37_1 339 = .ok (.invokeinterface 74 2, 5) := by decide +kernel
theorem d1_344 : decode cp_37_1 344 = .ok (.checkcast 50, 3) := by decide +kernel
theorem d1_347 : decode cp_37_1 347 = .ok (.invokevirtual 78, 3) := by decide +kernel
theorem d1_350 : decode cp_37_1 350 = .ok (.iconst 1, 1) := by decide +kernel
theorem d1_351 : decode cp_37_1 351 = .ok (.isub, 1) := by decide +kernel
theorem d1_352 : decode cp_37_1 352 = .ok (.goto 7, 3) := by decide +kernel
theorem d1_387 : decode cp_37_1 387 = .ok (.aload_n 2, 1) := by decide +kernel
theorem d1_388 : decode cp_37_1 388 = .ok (.iload 5, 2) := by decide +kernel
theorem d1_390 : decode cp_37_1 390 = .ok (.daload, 1) := by decide +kernel
set_option maxRecDepth 65536 in
set_option maxHeartbeats 40000000 in
theorem sC2 {p : Program} {l : Launch} {e : Env} {s : State} {m : MethodId} {below : List Frame} {meth : Method} {c : Code} {T0 : State} {lo0 : List Loc} {Z : State} {a0 : Array Value} (hw : HW a0 Z) (hx : p.tables.exec = Jvm.exec) (hby : c.code = prog_37_method_1_code) (hml : c.maxLocals = 7) (hZ : Z.Warmed39 s.vm) (hown : s.vm.findClass cF = some m.cls) (hnm : meth.name = "<init>") (a : Addr) (ti : Addr) (ti_k : ClassId) (va : Addr) (va_k : ClassId) (ln : Int32) (lt : List Value) (lv : List Value) (iz : Int32) (al : Addr) (b : Addr) (b_k : ClassId) (x1 : Addr) (x2 : Addr) (ix1 : Int32) (ix2 : Int32) (ta1 : Int64) (ta2 : Int64) (tb2 : Int64) (tc1 : Int64) (tc2 : Int64) {h0 hs : Heap} {n0 : Nat} (X0 : Stand p l e R5_7_28_108 s m #[(.ref a), (.ref ti), (.ref va)] below meth c T0 lo0 4 19) (N0 : Fr n0 lo0) (e0 : T0.heap = hs) (Z0 : n0 ≤ hs.size) (KC0 : Keep h0 hs [a]) (E_a : Exa Z hs a cF) (F_instants : Fld Z hs a cF "instants" "[D" .null) (F_lefts : Fld Z hs a cF "lefts" "[D" .null) (F_rights : Fld Z hs a cF "rights" "[D" .null) (V_ti : Arv Z hs ti ti_k .double ln lt dZ) (V_va : Arv Z hs va va_k .double ln lv dZ) (E_al : Exa Z hs al aL) (F_s : Fld Z hs al aL "size" "I" (.int (2 : Int32))) (F_e : Fld Z hs al aL "elementData" lO (.ref b)) (V_b : Arv Z hs b b_k (.object "java/lang/Object") (10 : Int32) [(.ref x1), (.ref x2), .null, .null, .null, .null, .null, .null, .null, .null] .null) (E_x1 : Exa Z hs x1 iN) (E_x2 : Exa Z hs x2 iN) (F_x1 : Fld Z hs x1 iN "value" "I" (.int ix1)) (F_x2 : Fld Z hs x2 iN "value" "I" (.int ix2)) (g_a : n0 ≤ a) (ne_ti_a : ti ≠ a) (ne_va_a : va ≠ a) (ne_al_a : al ≠ a) (ne_b_a : b ≠ a) (ne_x1_a : x1 ≠ a) (ne_x2_a : x2 ≠ a) (hi1 : ¬ ix1 < 0 ∧ ix1 < ln) (ht1 : lt.getD (ix1).toNatClampNeg dZ = dV ta1) (he1 : ¬ (ix2 - (1 : Int32)) < 0 ∧ (ix2 - (1 : Int32)) < ln) (hc1 : lv.getD ((ix2 - (1 : Int32))).toNatClampNeg dZ = dV tc1) (hi2 : ¬ ix2 < 0 ∧ ix2 < ln) (ht2 : lt.getD (ix2).toNatClampNeg dZ = dV ta2) (he2 : ¬ (ln - (1 : Int32)) < 0 ∧ (ln - (1 : Int32)) < ln) (hc2 : lv.getD ((ln - (1 : Int32))).toNatClampNeg dZ = dV tc2) (hv2 : lv.getD (ix2).toNatClampNeg dZ = dV tb2) :
    ∃ (T1 : State) (lo1 : List Loc) (h1 : Heap) (di : Addr) (di_k : ClassId) (dl : Addr) (dl_k : ClassId) (dr : Addr) (dr_k : ClassId), Stand p l e R5_7_28_108 s m #[(.ref a), (.ref ti), (.ref va)] below meth c T1 lo1 7 25 ∧ Fr n0 lo1 ∧ T1.heap = h1 ∧ n0 ≤ h1.size ∧ Keep h0 h1 [a] ∧ Exa Z h1 a cF ∧ Fld Z h1 a cF "instants" "[D" (.ref di) ∧ Fld Z h1 a cF "lefts" "[D" (.ref dl) ∧ Fld Z h1 a cF "rights" "[D" (.ref dr) ∧ Arv Z h1 di di_k .double (2 : Int32) [(dV ta1), (dV ta2)] dZ ∧ Arv Z h1 dl dl_k .double (2 : Int32) [dZ, (dV tb2)] dZ ∧ Arv Z h1 dr dr_k .double (2 : Int32) [(dV tc1), (dV tc2)] dZ ∧ n0 ≤ di ∧ h0.size ≤ di ∧ n0 ≤ dl ∧ h0.size ≤ dl ∧ n0 ≤ dr ∧ h0.size ≤ dr ∧ Pr p e below (T0.setTop (mkF m 255 #[.val (.ref a), .val (.ref ti), .val (.ref va), .val (.ref al), .val (.int iz), .unset, .unset] [])) T1 (mkF m 409 #[.val (.ref a), .val (.ref ti), .val (.ref va), .val (.ref al), .val (.int (2 : Int32)), .val (.int ix2), .val (.int (ln - (1 : Int32)))] []) := by
 have pre0 : Pr p e below (T0.setTop (mkF m 255 #[.val (.ref a), .val (.ref ti), .val (.ref va), .val (.ref al), .val (.int iz), .unset, .unset] [])) T0 (mkF m 255 #[.val (.ref a), .val (.ref ti), .val (.ref va), .val (.ref al), .val (.int iz), .unset, .unset] []) := fun _ kk => kk
 generalize hI : T0.setTop (mkF m 255 #[.val (.ref a), .val (.ref ti), .val (.ref va), .val (.ref al), .val (.int iz), .unset, .unset] []) = I0 at pre0 ⊢
 obtain ⟨T12, lo12, Hc12, b2, b7, k2, k7, X12, N12, e12, Zs12, KC12, E_a_c12, F_rights_c12, V_ti_c12, V_va_c12, E_al_c12, F_s_c12, F_e_c12, V_b_c12, E_x1_c12, E_x2_c12, F_x1_c12, F_x2_c12, V_b2_c12, Fq4_c12, V_b7_c12, Fq9_c12, gnc12_1, gnc12_2, szc12_0, szc12_1, nesc12_6, nesc12_7, nesc12_8, nesc12_9, nesc12_10, nesc12_11, nesc12_12, nesc12_13, nesc12_14, nesc12_15, nesc12_16, nesc12_17, nesc12_18, nesc12_19, nesc12_20, pre12⟩ : ∃ (T12 : State) (lo12 : List Loc) (Hc12 : Heap) (b2 : Addr) (b7 : Addr) (k2 : ClassId) (k7 : ClassId), Stand p l e R5_7_28_108 s m #[(.ref a), (.ref ti), (.ref va)] below meth c T12 lo12 6 23 ∧ Fr n0 lo12 ∧ T12.heap = Hc12 ∧ n0 ≤ Hc12.size ∧ Keep h0 Hc12 [a] ∧ Exa Z Hc12 a cF ∧ Fld Z Hc12 a cF "rights" "[D" .null ∧ Arv Z Hc12 ti ti_k .double ln lt dZ ∧ Arv Z Hc12 va va_k .double ln lv dZ ∧ Exa Z Hc12 al aL ∧ Fld Z Hc12 al aL "size" "I" (.int (2 : Int32)) ∧ Fld Z Hc12 al aL "elementData" lO (.ref b) ∧ Arv Z Hc12 b b_k (.object "java/lang/Object") (10 : Int32) [(.ref x1), (.ref x2), .null, .null, .null, .null, .null, .null, .null, .null] .null ∧ Exa Z Hc12 x1 iN ∧ Exa Z Hc12 x2 iN ∧ Fld Z Hc12 x1 iN "value" "I" (.int ix1) ∧ Fld Z Hc12 x2 iN "value" "I" (.int ix2) ∧ Arv Z Hc12 b2 k2 .double (2 : Int32) [dZ, dZ] dZ ∧ Fld Z Hc12 a cF "instants" "[D" (.ref b2) ∧ Arv Z Hc12 b7 k7 .double (2 : Int32) [dZ, dZ] dZ ∧ Fld Z Hc12 a cF "lefts" "[D" (.ref b7) ∧ n0 ≤ b2 ∧ n0 ≤ b7 ∧ h0.size ≤ b2 ∧ h0.size ≤ b7 ∧ a ≠ b2 ∧ ti ≠ b2 ∧ va ≠ b2 ∧ al ≠ b2 ∧ b ≠ b2 ∧ x1 ≠ b2 ∧ x2 ≠ b2 ∧ a ≠ b7 ∧ ti ≠ b7 ∧ va ≠ b7 ∧ al ≠ b7 ∧ b ≠ b7 ∧ x1 ≠ b7 ∧ x2 ≠ b7 ∧ b2 ≠ b7 ∧ Pr p e below I0 T12 (mkF m 279 #[.val (.ref a), .val (.ref ti), .val (.ref va), .val (.ref al), .val (.int iz), .unset, .unset] []) := by
  obtain ⟨cq1, kq1, q1a, q1b, q1c⟩ := isOf hZ e0 E_al
  obtain ⟨_, _, ⟨T1, L1, k1, n1⟩, -, X1, ⟨Lc1, hQ1, l1, y1, z1⟩, st1⟩ := X0.interfaceBack hx (xi := M16) (y := M4) hown (mvT hZ (tw47 hw)) (mvT hZ (tw48 hw)) (mvT hZ (tw49 hw)) (mvT hZ (tw50 hw)) (mvT hZ (tw51 hw)) (mvT hZ (tw52 hw)) (mvT hZ (tw53 hw)) (mvT hZ (tw54 hw)) (by decide) (backOf (W := 1) (rmSz l Z a0 hw [] al ((2 : Int32)) hs n0 Z0 F_s) hZ (tw55 hw) (tw25 hw) (by decide) (by decide)) q1a q1b q1c (g := (mkF m 257 #[.val (.ref a), .val (.ref ti), .val (.ref va), .val (.ref al), .val (.int iz), .unset, .unset] [(.ref al), (.ref a)])) rfl (by rw [hml]; rfl) (Steps.refl _) (argsL := []) (rest := [(.ref a)]) (lenOf pd___I rfl) rfl (own_mr rfl) (hb hby d1_257) (fun _ _ => ⟨rfl, e0, (by decide : 4 + 0 ≤ _), (by decide : 19 + 0 ≤ _)⟩)
  dsimp only [Pt.U, Pt.locs, Pt.cells, Pt.slots] at X1 l1 y1 z1 st1 hQ1
  rw [l1, y1, z1] at X1
  obtain ⟨rfl, N1q, hh1⟩ := hQ1
  have N1 := Fr.app N0 N1q
  obtain ⟨T2, h2, k2, X2, e2, E2, A2, Ex2, st2⟩ := newPE X1 hx hZ (aty := .double) (tw0 hw) hh1 (g := (mkF m 262 #[.val (.ref a), .val (.ref ti), .val (.ref va), .val (.ref al), .val (.int iz), .unset, .unset] [(.int (2 : Int32)), (.ref a)])) rfl (hb hby d1_262) rfl (by decide) (cap := 2) (by decide) (by decide) (by decide) (by decide) (ad := "[D") (by decide +kernel)
  obtain ⟨b2, g2⟩ : ∃ z, z = hs.size := ⟨_, rfl⟩
  rw [← g2] at A2 Ex2 st2
  have ne_a_b2 := own_ne E_a.lt g2
  have ne_ti_b2 := own_ne V_ti.lt g2
  have ne_va_b2 := own_ne V_va.lt g2
  have ne_al_b2 := own_ne E_al.lt g2
  have ne_b_b2 := own_ne V_b.lt g2
  have ne_x1_b2 := own_ne E_x1.lt g2
  have ne_x2_b2 := own_ne E_x2.lt g2
  have gn_b2 := own_le Z0 g2
  have sz_b2 := own_le KC0.1 g2
  replace E_a := E_a.ext E2
  replace F_instants := F_instants.ext E2
  replace F_lefts := F_lefts.ext E2
  replace F_rights := F_rights.ext E2
  replace V_ti := V_ti.ext E2
  replace V_va := V_va.ext E2
  replace E_al := E_al.ext E2
  replace F_s := F_s.ext E2
  replace F_e := F_e.ext E2
  replace V_b := V_b.ext E2
  replace E_x1 := E_x1.ext E2
  replace E_x2 := E_x2.ext E2
  replace F_x1 := F_x1.ext E2
  replace F_x2 := F_x2.ext E2
  have Zs3 := Nat.le_trans Z0 E2.1
  have KC3 := KC0.ext E2
  have V_b2 : Arv Z h2 b2 k2 .double (2 : Int32) [dZ, dZ] dZ := (Arv.newD A2 (by decide)).pad (pad_rep [] dZ 2)
  obtain ⟨T4, h4, X4, e4, W4, st4⟩ := putF X2 hx hZ hown (host := "") (Or.inl (tw58 hw)) Via.refl e2 F_instants E_a (Or.inr ⟨(tw59 hw), rfl, hnm⟩) (tw2 hw) (ty := (.array .double)) (by decide) rfl rfl (g := (mkF m 264 #[.val (.ref a), .val (.ref ti), .val (.ref va), .val (.ref al), .val (.int iz), .unset, .unset] [(.ref b2), (.ref a)])) rfl rfl (hb hby d1_264)
  have N4 := Fr.snoc X4 N1 g_a
  have Fq4 := F_instants.same W4
  replace E_a := E_a.wr W4
  replace F_lefts := F_lefts.other W4 (Or.inr (slot_ne (Or.inr (tw61 hw)) (Or.inr (tw59 hw)) (by decide) (t := (.array .double)) (t' := (.array .double)) (by decide) (by decide)))
  replace F_rights := F_rights.other W4 (Or.inr (slot_ne (Or.inr (tw63 hw)) (Or.inr (tw59 hw)) (by decide) (t := (.array .double)) (t' := (.array .double)) (by decide) (by decide)))
  replace V_ti := V_ti.other W4 ne_ti_a
  replace V_va := V_va.other W4 ne_va_a
  replace E_al := E_al.wr W4
  replace F_s := F_s.other W4 (Or.inl ne_al_a)
  replace F_e := F_e.other W4 (Or.inl ne_al_a)
  replace V_b := V_b.other W4 ne_b_a
  replace E_x1 := E_x1.wr W4
  replace E_x2 := E_x2.wr W4
  replace F_x1 := F_x1.other W4 (Or.inl ne_x1_a)
  replace F_x2 := F_x2.other W4 (Or.inl ne_x2_a)
  replace V_b2 := V_b2.other W4 (Ne.symm ne_a_b2)
  have Zs5 := Nat.le_trans Zs3 (Keep.of_wr W4).1
  have KC5 := KC3.wr W4 (Or.inl (List.mem_of_getElem? (i := 0) rfl))
  obtain ⟨cq6, kq6, q6a, q6b, q6c⟩ := isOf hZ e4 E_al
  obtain ⟨_, _, ⟨T6, L6, k6, n6⟩, -, X6, ⟨Lc6, hQ6, l6, y6, z6⟩, st6⟩ := X4.interfaceBack hx (xi := M16) (y := M4) hown (mvT hZ (tw47 hw)) (mvT hZ (tw48 hw)) (mvT hZ (tw49 hw)) (mvT hZ (tw50 hw)) (mvT hZ (tw51 hw)) (mvT hZ (tw52 hw)) (mvT hZ (tw53 hw)) (mvT hZ (tw54 hw)) (by decide) (backOf (W := 1) (rmSz l Z a0 hw [] al ((2 : Int32)) h4 n0 Zs5 F_s) hZ (tw55 hw) (tw25 hw) (by decide) (by decide)) q6a q6b q6c (g := (mkF m 269 #[.val (.ref a), .val (.ref ti), .val (.ref va), .val (.ref al), .val (.int iz), .unset, .unset] [(.ref al), (.ref a)])) rfl (by rw [hml]; rfl) (Steps.refl _) (argsL := []) (rest := [(.ref a)]) (lenOf pd___I rfl) rfl (own_mr rfl) (hb hby d1_269) (fun _ _ => ⟨rfl, e4, (by decide : 5 + 0 ≤ _), (by decide : 21 + 0 ≤ _)⟩)
  dsimp only [Pt.U, Pt.locs, Pt.cells, Pt.slots] at X6 l6 y6 z6 st6 hQ6
  rw [l6, y6, z6] at X6
  obtain ⟨rfl, N6q, hh6⟩ := hQ6
  have N6 := Fr.app N4 N6q
  obtain ⟨T7, h7, k7, X7, e7, E7, A7, Ex7, st7⟩ := newPE X6 hx hZ (aty := .double) (tw0 hw) hh6 (g := (mkF m 274 #[.val (.ref a), .val (.ref ti), .val (.ref va), .val (.ref al), .val (.int iz), .unset, .unset] [(.int (2 : Int32)), (.ref a)])) rfl (hb hby d1_274) rfl (by decide) (cap := 2) (by decide) (by decide) (by decide) (by decide) (ad := "[D") (by decide +kernel)
  obtain ⟨b7, g7⟩ : ∃ z, z = h4.size := ⟨_, rfl⟩
  rw [← g7] at A7 Ex7 st7
  have ne_a_b7 := own_ne E_a.lt g7
  have ne_ti_b7 := own_ne V_ti.lt g7
  have ne_va_b7 := own_ne V_va.lt g7
  have ne_al_b7 := own_ne E_al.lt g7
  have ne_b_b7 := own_ne V_b.lt g7
  have ne_x1_b7 := own_ne E_x1.lt g7
  have ne_x2_b7 := own_ne E_x2.lt g7
  have ne_b2_b7 := own_ne V_b2.lt g7
  have gn_b7 := own_le Zs5 g7
  have sz_b7 := own_le KC5.1 g7
  replace E_a := E_a.ext E7
  replace F_lefts := F_lefts.ext E7
  replace F_rights := F_rights.ext E7
  replace V_ti := V_ti.ext E7
  replace V_va := V_va.ext E7
  replace E_al := E_al.ext E7
  replace F_s := F_s.ext E7
  replace F_e := F_e.ext E7
  replace V_b := V_b.ext E7
  replace E_x1 := E_x1.ext E7
  replace E_x2 := E_x2.ext E7
  replace F_x1 := F_x1.ext E7
  replace F_x2 := F_x2.ext E7
  replace V_b2 := V_b2.ext E7
  replace Fq4 := Fq4.ext E7
  have Zs8 := Nat.le_trans Zs5 E7.1
  have KC8 := KC5.ext E7
  have V_b7 : Arv Z h7 b7 k7 .double (2 : Int32) [dZ, dZ] dZ := (Arv.newD A7 (by decide)).pad (pad_rep [] dZ 2)
  obtain ⟨T9, h9, X9, e9, W9, st9⟩ := putF X7 hx hZ hown (host := "") (Or.inl (tw60 hw)) Via.refl e7 F_lefts E_a (Or.inr ⟨(tw61 hw), rfl, hnm⟩) (tw2 hw) (ty := (.array .double)) (by decide) rfl rfl (g := (mkF m 276 #[.val (.ref a), .val (.ref ti), .val (.ref va), .val (.ref al), .val (.int iz), .unset, .unset] [(.ref b7), (.ref a)])) rfl rfl (hb hby d1_276)
  have N9 := Fr.snoc X9 N6 g_a
  have Fq9 := F_lefts.same W9
  replace E_a := E_a.wr W9
  replace F_rights := F_rights.other W9 (Or.inr (slot_ne (Or.inr (tw63 hw)) (Or.inr (tw61 hw)) (by decide) (t := (.array .double)) (t' := (.array .double)) (by decide) (by decide)))
  replace V_ti := V_ti.other W9 ne_ti_a
  replace V_va := V_va.other W9 ne_va_a
  replace E_al := E_al.wr W9
  replace F_s := F_s.other W9 (Or.inl ne_al_a)
  replace F_e := F_e.other W9 (Or.inl ne_al_a)
  replace V_b := V_b.other W9 ne_b_a
  replace E_x1 := E_x1.wr W9
  replace E_x2 := E_x2.wr W9
  replace F_x1 := F_x1.other W9 (Or.inl ne_x1_a)
  replace F_x2 := F_x2.other W9 (Or.inl ne_x2_a)
  replace V_b2 := V_b2.other W9 (Ne.symm ne_a_b2)
  replace Fq4 := Fq4.other W9 (Or.inr (slot_ne (Or.inr (tw59 hw)) (Or.inr (tw61 hw)) (by decide) (t := (.array .double)) (t' := (.array .double)) (by decide) (by decide)))
  replace V_b7 := V_b7.other W9 (Ne.symm ne_a_b7)
  have Zs10 := Nat.le_trans Zs8 (Keep.of_wr W9).1
  have KC10 := KC8.wr W9 (Or.inl (List.mem_of_getElem? (i := 0) rfl))
  have pre11 : Pr p e below I0 T9 (mkF m 279 #[.val (.ref a), .val (.ref ti), .val (.ref va), .val (.ref al), .val (.int iz), .unset, .unset] []) := by
   intro tg kk
   refine pre0 tg ?_
   refine XS.aloadN X0.here hx rfl (hb hby d1_255) rfl rfl ?_
   refine XS.aloadN X0.here hx rfl (hb hby d1_256) rfl rfl ?_
   refine st1.trans ?_
   refine st2 _ ?_
   refine st4 _ ?_
   refine XS.aloadN X4.here hx rfl (hb hby d1_267) rfl rfl ?_
   refine XS.aloadN X4.here hx rfl (hb hby d1_268) rfl rfl ?_
   refine st6.trans ?_
   refine st7 _ ?_
   refine st9 _ ?_
   exact kk
  exact ⟨T9, _, h9, b2, b7, k2, k7, X9, N9, e9, Zs10, KC10, E_a, F_rights, V_ti, V_va, E_al, F_s, F_e, V_b, E_x1, E_x2, F_x1, F_x2, V_b2, Fq4, V_b7, Fq9, gn_b2, gn_b7, sz_b2, sz_b7, ne_a_b2, ne_ti_b2, ne_va_b2, ne_al_b2, ne_b_b2, ne_x1_b2, ne_x2_b2, ne_a_b7, ne_ti_b7, ne_va_b7, ne_al_b7, ne_b_b7, ne_x1_b7, ne_x2_b7, ne_b2_b7, pre11⟩
 clear pre0 X0 N0 e0 KC0 Z0 E_a F_instants F_lefts F_rights V_ti V_va E_al F_s F_e V_b E_x1 E_x2 F_x1 F_x2
 obtain ⟨T37, lo37, Hc37, b14, k14, X37, N37, e37, Zs37, KC37, E_a_c37, V_ti_c37, V_va_c37, E_al_c37, F_s_c37, F_e_c37, V_b_c37, E_x2_c37, F_x2_c37, Fq4_c37, Fq9_c37, V_b14_c37, Fq16_c37, Vq30_c37, Vq34_c37, gnc37_3, szc37_2, nesc37_21, nesc37_22, nesc37_23, nesc37_24, nesc37_25, nesc37_26, nesc37_27, nesc37_28, nesc37_29, pre37⟩ : ∃ (T37 : State) (lo37 : List Loc) (Hc37 : Heap) (b14 : Addr) (k14 : ClassId), Stand p l e R5_7_28_108 s m #[(.ref a), (.ref ti), (.ref va)] below meth c T37 lo37 7 25 ∧ Fr n0 lo37 ∧ T37.heap = Hc37 ∧ n0 ≤ Hc37.size ∧ Keep h0 Hc37 [a] ∧ Exa Z Hc37 a cF ∧ Arv Z Hc37 ti ti_k .double ln lt dZ ∧ Arv Z Hc37 va va_k .double ln lv dZ ∧ Exa Z Hc37 al aL ∧ Fld Z Hc37 al aL "size" "I" (.int (2 : Int32)) ∧ Fld Z Hc37 al aL "elementData" lO (.ref b) ∧ Arv Z Hc37 b b_k (.object "java/lang/Object") (10 : Int32) [(.ref x1), (.ref x2), .null, .null, .null, .null, .null, .null, .null, .null] .null ∧ Exa Z Hc37 x2 iN ∧ Fld Z Hc37 x2 iN "value" "I" (.int ix2) ∧ Fld Z Hc37 a cF "instants" "[D" (.ref b2) ∧ Fld Z Hc37 a cF "lefts" "[D" (.ref b7) ∧ Arv Z Hc37 b14 k14 .double (2 : Int32) [dZ, dZ] dZ ∧ Fld Z Hc37 a cF "rights" "[D" (.ref b14) ∧ Arv Z Hc37 b2 k2 .double (2 : Int32) [(dV ta1), dZ] dZ ∧ Arv Z Hc37 b7 k7 .double (2 : Int32) [dZ, dZ] dZ ∧ n0 ≤ b14 ∧ h0.size ≤ b14 ∧ a ≠ b14 ∧ ti ≠ b14 ∧ va ≠ b14 ∧ al ≠ b14 ∧ b ≠ b14 ∧ x1 ≠ b14 ∧ x2 ≠ b14 ∧ b2 ≠ b14 ∧ b7 ≠ b14 ∧ Pr p e below I0 T37 (mkF m 392 #[.val (.ref a), .val (.ref ti), .val (.ref va), .val (.ref al), .val (.int (0 : Int32)), .val (.int ix1), .val (.int (ix2 - (1 : Int32)))] []) := by
  obtain ⟨cq13, kq13, q13a, q13b, q13c⟩ := isOf hZ e12 E_al_c12
  obtain ⟨_, _, ⟨T13, L13, k13, n13⟩, -, X13, ⟨Lc13, hQ13, l13, y13, z13⟩, st13⟩ := X12.interfaceBack hx (xi := M16) (y := M4) hown (mvT hZ (tw47 hw)) (mvT hZ (tw48 hw)) (mvT hZ (tw49 hw)) (mvT hZ (tw50 hw)) (mvT hZ (tw51 hw)) (mvT hZ (tw52 hw)) (mvT hZ (tw53 hw)) (mvT hZ (tw54 hw)) (by decide) (backOf (W := 1) (rmSz l Z a0 hw [] al ((2 : Int32)) Hc12 n0 Zs12 F_s_c12) hZ (tw55 hw) (tw25 hw) (by decide) (by decide)) q13a q13b q13c (g := (mkF m 281 #[.val (.ref a), .val (.ref ti), .val (.ref va), .val (.ref al), .val (.int iz), .unset, .unset] [(.ref al), (.ref a)])) rfl (by rw [hml]; rfl) (Steps.refl _) (argsL := []) (rest := [(.ref a)]) (lenOf pd___I rfl) rfl (own_mr rfl) (hb hby d1_281) (fun _ _ => ⟨rfl, e12, (by decide : 6 + 0 ≤ _), (by decide : 23 + 0 ≤ _)⟩)
  dsimp only [Pt.U, Pt.locs, Pt.cells, Pt.slots] at X13 l13 y13 z13 st13 hQ13
  rw [l13, y13, z13] at X13
  obtain ⟨rfl, N13q, hh13⟩ := hQ13
  have N13 := Fr.app N12 N13q
  obtain ⟨T14, h14, k14, X14, e14, E14, A14, Ex14, st14⟩ := newPE X13 hx hZ (aty := .double) (tw0 hw) hh13 (g := (mkF m 286 #[.val (.ref a), .val (.ref ti), .val (.ref va), .val (.ref al), .val (.int iz), .unset, .unset] [(.int (2 : Int32)), (.ref a)])) rfl (hb hby d1_286) rfl (by decide) (cap := 2) (by decide) (by decide) (by decide) (by decide) (ad := "[D") (by decide +kernel)
  obtain ⟨b14, g14⟩ : ∃ z, z = Hc12.size := ⟨_, rfl⟩
  rw [← g14] at A14 Ex14 st14
  have ne_a_b14 := own_ne E_a_c12.lt g14
  have ne_ti_b14 := own_ne V_ti_c12.lt g14
  have ne_va_b14 := own_ne V_va_c12.lt g14
  have ne_al_b14 := own_ne E_al_c12.lt g14
  have ne_b_b14 := own_ne V_b_c12.lt g14
  have ne_x1_b14 := own_ne E_x1_c12.lt g14
  have ne_x2_b14 := own_ne E_x2_c12.lt g14
  have ne_b2_b14 := own_ne V_b2_c12.lt g14
  have ne_b7_b14 := own_ne V_b7_c12.lt g14
  have gn_b14 := own_le Zs12 g14
  have sz_b14 := own_le KC12.1 g14
  replace E_a_c12 := E_a_c12.ext E14
  replace F_rights_c12 := F_rights_c12.ext E14
  replace V_ti_c12 := V_ti_c12.ext E14
  replace V_va_c12 := V_va_c12.ext E14
  replace E_al_c12 := E_al_c12.ext E14
  replace F_s_c12 := F_s_c12.ext E14
  replace F_e_c12 := F_e_c12.ext E14
  replace V_b_c12 := V_b_c12.ext E14
  replace E_x1_c12 := E_x1_c12.ext E14
  replace E_x2_c12 := E_x2_c12.ext E14
  replace F_x1_c12 := F_x1_c12.ext E14
  replace F_x2_c12 := F_x2_c12.ext E14
  replace V_b2_c12 := V_b2_c12.ext E14
  replace Fq4_c12 := Fq4_c12.ext E14
  replace V_b7_c12 := V_b7_c12.ext E14
  replace Fq9_c12 := Fq9_c12.ext E14
  have Zs15 := Nat.le_trans Zs12 E14.1
  have KC15 := KC12.ext E14
  have V_b14 : Arv Z h14 b14 k14 .double (2 : Int32) [dZ, dZ] dZ := (Arv.newD A14 (by decide)).pad (pad_rep [] dZ 2)
  obtain ⟨T16, h16, X16, e16, W16, st16⟩ := putF X14 hx hZ hown (host := "") (Or.inl (tw62 hw)) Via.refl e14 F_rights_c12 E_a_c12 (Or.inr ⟨(tw63 hw), rfl, hnm⟩) (tw2 hw) (ty := (.array .double)) (by decide) rfl rfl (g := (mkF m 288 #[.val (.ref a), .val (.ref ti), .val (.ref va), .val (.ref al), .val (.int iz), .unset, .unset] [(.ref b14), (.ref a)])) rfl rfl (hb hby d1_288)
  have N16 := Fr.snoc X16 N13 g_a
  have Fq16 := F_rights_c12.same W16
  replace E_a_c12 := E_a_c12.wr W16
  replace V_ti_c12 := V_ti_c12.other W16 ne_ti_a
  replace V_va_c12 := V_va_c12.other W16 ne_va_a
  replace E_al_c12 := E_al_c12.wr W16
  replace F_s_c12 := F_s_c12.other W16 (Or.inl ne_al_a)
  replace F_e_c12 := F_e_c12.other W16 (Or.inl ne_al_a)
  replace V_b_c12 := V_b_c12.other W16 ne_b_a
  replace E_x1_c12 := E_x1_c12.wr W16
  replace E_x2_c12 := E_x2_c12.wr W16
  replace F_x1_c12 := F_x1_c12.other W16 (Or.inl ne_x1_a)
  replace F_x2_c12 := F_x2_c12.other W16 (Or.inl ne_x2_a)
  replace V_b2_c12 := V_b2_c12.other W16 (Ne.symm nesc12_6)
  replace Fq4_c12 := Fq4_c12.other W16 (Or.inr (slot_ne (Or.inr (tw59 hw)) (Or.inr (tw63 hw)) (by decide) (t := (.array .double)) (t' := (.array .double)) (by decide) (by decide)))
  replace V_b7_c12 := V_b7_c12.other W16 (Ne.symm nesc12_13)
  replace Fq9_c12 := Fq9_c12.other W16 (Or.inr (slot_ne (Or.inr (tw61 hw)) (Or.inr (tw63 hw)) (by decide) (t := (.array .double)) (t' := (.array .double)) (by decide) (by decide)))
  replace V_b14 := V_b14.other W16 (Ne.symm ne_a_b14)
  have Zs17 := Nat.le_trans Zs15 (Keep.of_wr W16).1
  have KC17 := KC15.wr W16 (Or.inl (List.mem_of_getElem? (i := 0) rfl))
  obtain ⟨cq18, kq18, q18a, q18b, q18c⟩ := isOf hZ e16 E_al_c12
  obtain ⟨_, _, ⟨T18, L18, k18, n18⟩, -, X18, ⟨Lc18, hQ18, l18, y18, z18⟩, st18⟩ := X16.interfaceBack hx (xi := M16) (y := M4) hown (mvT hZ (tw47 hw)) (mvT hZ (tw48 hw)) (mvT hZ (tw49 hw)) (mvT hZ (tw50 hw)) (mvT hZ (tw51 hw)) (mvT hZ (tw52 hw)) (mvT hZ (tw53 hw)) (mvT hZ (tw54 hw)) (by decide) (backOf (W := 1) (rmSz l Z a0 hw [] al ((2 : Int32)) h16 n0 Zs17 F_s_c12) hZ (tw55 hw) (tw25 hw) (by decide) (by decide)) q18a q18b q18c (g := (mkF m 297 #[.val (.ref a), .val (.ref ti), .val (.ref va), .val (.ref al), .val (.int (0 : Int32)), .unset, .unset] [(.ref al), (.int (0 : Int32))])) rfl (by rw [hml]; rfl) (Steps.refl _) (argsL := []) (rest := [(.int (0 : Int32))]) (lenOf pd___I rfl) rfl (own_mr rfl) (hb hby d1_297) (fun _ _ => ⟨rfl, e16, (by decide : 7 + 0 ≤ _), (by decide : 25 + 0 ≤ _)⟩)
  dsimp only [Pt.U, Pt.locs, Pt.cells, Pt.slots] at X18 l18 y18 z18 st18 hQ18
  rw [l18, y18, z18] at X18
  obtain ⟨rfl, N18q, hh18⟩ := hQ18
  have N18 := Fr.app N16 N18q
  obtain ⟨cq19, kq19, q19a, q19b, q19c⟩ := isOf hZ hh18 E_al_c12
  obtain ⟨_, _, ⟨T19, L19, k19, n19⟩, -, X19, ⟨Lc19, hQ19, l19, y19, z19⟩, st19⟩ := X18.interfaceBack hx (xi := M17) (y := M15) hown (mvT hZ (tw120 hw)) (mvT hZ (tw121 hw)) (mvT hZ (tw122 hw)) (mvT hZ (tw123 hw)) (mvT hZ (tw124 hw)) (mvT hZ (tw125 hw)) (mvT hZ (tw126 hw)) (mvT hZ (tw54 hw)) (by decide) (backOf (W := 0) (rmGt l Z a0 hw [] al b b_k ((0 : Int32)) ([(.ref x1), (.ref x2), .null, .null, .null, .null, .null, .null, .null, .null]) x1 ((2 : Int32)) h16 n0 Zs17 E_al_c12 F_s_c12 F_e_c12 V_b_c12 (by decide) (by decide) rfl) hZ (tw127 hw) (tw25 hw) (by decide) (by decide)) q19a q19b q19c (g := (mkF m 308 #[.val (.ref a), .val (.ref ti), .val (.ref va), .val (.ref al), .val (.int (0 : Int32)), .unset, .unset] [(.int (0 : Int32)), (.ref al)])) rfl (by rw [hml]; rfl) (Steps.refl _) (argsL := [(.int (0 : Int32))]) (rest := []) (lenOf pd__I_Ljava_lang_Object_ rfl) rfl (own_mr rfl) (hb hby d1_308) (fun _ _ => ⟨rfl, hh18, (by decide : 7 + 0 ≤ _), (by decide : 25 + 0 ≤ _)⟩)
  dsimp only [Pt.U, Pt.locs, Pt.cells, Pt.slots] at X19 l19 y19 z19 st19 hQ19
  rw [l19, y19, z19] at X19
  obtain ⟨rfl, N19q, hh19⟩ := hQ19
  have N19 := Fr.app N18 N19q
  obtain ⟨T20, X20, e20, st20⟩ := castY X19 hx hZ hown (tw141 hw) hh19 (Ins.self E_x1_c12) (g := (mkF m 313 #[.val (.ref a), .val (.ref ti), .val (.ref va), .val (.ref al), .val (.int (0 : Int32)), .unset, .unset] [(.ref x1)])) rfl rfl (hb hby d1_313)
  obtain ⟨cq21, kq21, q21a, q21b, q21c⟩ := isOf hZ e20 E_x1_c12
  obtain ⟨_, _, ⟨T21, L21, k21, n21⟩, -, X21, ⟨Lc21, hQ21, l21, y21, z21⟩, st21⟩ := X20.virtualBack hx (y := M11) (z := M11) hown (mvT hZ (tw143 hw)) (mvT hZ (tw144 hw)) (notFace_of_selects (args := #[]) (mvT hZ (tw146 hw))) (mvT hZ (tw146 hw)) (mvT hZ (tw145 hw)) (by decide) (backOf (W := 0) (rmIV l Z a0 hw [] x1 ix1 h16 n0 Zs17 F_x1_c12) hZ (tw147 hw) (tw84 hw) (by decide) (by decide)) q21a q21c (g := (mkF m 316 #[.val (.ref a), .val (.ref ti), .val (.ref va), .val (.ref al), .val (.int (0 : Int32)), .unset, .unset] [(.ref x1)])) rfl (by rw [hml]; rfl) (Steps.refl _) (argsL := []) (rest := []) (lenOf pd___I rfl) rfl (own_mr rfl) (hb hby d1_316) (fun _ _ => ⟨rfl, e20, (by decide : 7 + 0 ≤ _), (by decide : 25 + 0 ≤ _)⟩)
  dsimp only [Pt.U, Pt.locs, Pt.cells, Pt.slots] at X21 l21 y21 z21 st21 hQ21
  rw [l21, y21, z21] at X21
  obtain ⟨rfl, N21q, hh21⟩ := hQ21
  have N21 := Fr.app N19 N21q
  obtain ⟨cq22, kq22, q22a, q22b, q22c⟩ := isOf hZ hh21 E_al_c12
  obtain ⟨_, _, ⟨T22, L22, k22, n22⟩, -, X22, ⟨Lc22, hQ22, l22, y22, z22⟩, st22⟩ := X21.interfaceBack hx (xi := M16) (y := M4) hown (mvT hZ (tw47 hw)) (mvT hZ (tw48 hw)) (mvT hZ (tw49 hw)) (mvT hZ (tw50 hw)) (mvT hZ (tw51 hw)) (mvT hZ (tw52 hw)) (mvT hZ (tw53 hw)) (mvT hZ (tw54 hw)) (by decide) (backOf (W := 1) (rmSz l Z a0 hw [] al ((2 : Int32)) h16 n0 Zs17 F_s_c12) hZ (tw55 hw) (tw25 hw) (by decide) (by decide)) q22a q22b q22c (g := (mkF m 326 #[.val (.ref a), .val (.ref ti), .val (.ref va), .val (.ref al), .val (.int (0 : Int32)), .val (.int ix1), .unset] [(.ref al), (.int (1 : Int32))])) rfl (by rw [hml]; rfl) (Steps.refl _) (argsL := []) (rest := [(.int (1 : Int32))]) (lenOf pd___I rfl) rfl (own_mr rfl) (hb hby d1_326) (fun _ _ => ⟨rfl, hh21, (by decide : 7 + 0 ≤ _), (by decide : 25 + 0 ≤ _)⟩)
  dsimp only [Pt.U, Pt.locs, Pt.cells, Pt.slots] at X22 l22 y22 z22 st22 hQ22
  rw [l22, y22, z22] at X22
  obtain ⟨rfl, N22q, hh22⟩ := hQ22
  have N22 := Fr.app N21 N22q
  obtain ⟨cq23, kq23, q23a, q23b, q23c⟩ := isOf hZ hh22 E_al_c12
  obtain ⟨_, _, ⟨T23, L23, k23, n23⟩, -, X23, ⟨Lc23, hQ23, l23, y23, z23⟩, st23⟩ := X22.interfaceBack hx (xi := M17) (y := M15) hown (mvT hZ (tw120 hw)) (mvT hZ (tw121 hw)) (mvT hZ (tw122 hw)) (mvT hZ (tw123 hw)) (mvT hZ (tw124 hw)) (mvT hZ (tw125 hw)) (mvT hZ (tw126 hw)) (mvT hZ (tw54 hw)) (by decide) (backOf (W := 0) (rmGt l Z a0 hw [] al b b_k ((1 : Int32)) ([(.ref x1), (.ref x2), .null, .null, .null, .null, .null, .null, .null, .null]) x2 ((2 : Int32)) h16 n0 Zs17 E_al_c12 F_s_c12 F_e_c12 V_b_c12 (by decide) (by decide) rfl) hZ (tw127 hw) (tw25 hw) (by decide) (by decide)) q23a q23b q23c (g := (mkF m 339 #[.val (.ref a), .val (.ref ti), .val (.ref va), .val (.ref al), .val (.int (0 : Int32)), .val (.int ix1), .unset] [(.int (1 : Int32)), (.ref al)])) rfl (by rw [hml]; rfl) (Steps.refl _) (argsL := [(.int (1 : Int32))]) (rest := []) (lenOf pd__I_Ljava_lang_Object_ rfl) rfl (own_mr rfl) (hb hby d1_339) (fun _ _ => ⟨rfl, hh22, (by decide : 7 + 0 ≤ _), (by decide : 25 + 0 ≤ _)⟩)
  dsimp only [Pt.U, Pt.locs, Pt.cells, Pt.slots] at X23 l23 y23 z23 st23 hQ23
  rw [l23, y23, z23] at X23
  obtain ⟨rfl, N23q, hh23⟩ := hQ23
  have N23 := Fr.app N22 N23q
  obtain ⟨T24, X24, e24, st24⟩ := castY X23 hx hZ hown (tw141 hw) hh23 (Ins.self E_x2_c12) (g := (mkF m 344 #[.val (.ref a), .val (.ref ti), .val (.ref va), .val (.ref al), .val (.int (0 : Int32)), .val (.int ix1), .unset] [(.ref x2)])) rfl rfl (hb hby d1_344)
  obtain ⟨cq25, kq25, q25a, q25b, q25c⟩ := isOf hZ e24 E_x2_c12
  obtain ⟨_, _, ⟨T25, L25, k25, n25⟩, -, X25, ⟨Lc25, hQ25, l25, y25, z25⟩, st25⟩ := X24.virtualBack hx (y := M11) (z := M11) hown (mvT hZ (tw143 hw)) (mvT hZ (tw144 hw)) (notFace_of_selects (args := #[]) (mvT hZ (tw146 hw))) (mvT hZ (tw146 hw)) (mvT hZ (tw145 hw)) (by decide) (backOf (W := 0) (rmIV l Z a0 hw [] x2 ix2 h16 n0 Zs17 F_x2_c12) hZ (tw147 hw) (tw84 hw) (by decide) (by decide)) q25a q25c (g := (mkF m 347 #[.val (.ref a), .val (.ref ti), .val (.ref va), .val (.ref al), .val (.int (0 : Int32)), .val (.int ix1), .unset] [(.ref x2)])) rfl (by rw [hml]; rfl) (Steps.refl _) (argsL := []) (rest := []) (lenOf pd___I rfl) rfl (own_mr rfl) (hb hby d1_347) (fun _ _ => ⟨rfl, e24, (by decide : 7 + 0 ≤ _), (by decide : 25 + 0 ≤ _)⟩)
  dsimp only [Pt.U, Pt.locs, Pt.cells, Pt.slots] at X25 l25 y25 z25 st25 hQ25
  rw [l25, y25, z25] at X25
  obtain ⟨rfl, N25q, hh25⟩ := hQ25
  have N25 := Fr.app N23 N25q
  obtain ⟨T26, X26, e26, st26⟩ := getF X25 hx hZ hown (host := "") (Or.inl (tw58 hw)) Via.refl hh25 Fq4_c12 (g := (mkF m 362 #[.val (.ref a), .val (.ref ti), .val (.ref va), .val (.ref al), .val (.int (0 : Int32)), .val (.int ix1), .val (.int (ix2 - (1 : Int32)))] [(.ref a)])) rfl rfl (hb hby d1_362)
  obtain ⟨cl27, Ar27, aq27, aS27, aN27, aH27, aG27⟩ := id V_ti_c12
  have hin28 : ¬ (ix1 < 0 ∨ cl27.slots.size ≤ (ix1).toNatClampNeg) := inb_of aS27 hi1
  have hat28 : cl27.slots[(ix1).toNatClampNeg]? = some (dV ta1) := Has.at aH27 hin28 ht1
  obtain ⟨cl29, Ar29, aq29, aS29, aN29, aH29, aG29⟩ := id V_b2_c12
  have hin30 : ¬ ((0 : Int32) < 0 ∨ cl29.slots.size ≤ ((0 : Int32)).toNatClampNeg) := inb_of aS29 ⟨by decide, by decide⟩
  obtain ⟨T30, h30, X30, e30, W30, st30⟩ := stD X26 hx hZ e26 Ar29 (j := (0 : Int32)) hin30 (g := (mkF m 371 #[.val (.ref a), .val (.ref ti), .val (.ref va), .val (.ref al), .val (.int (0 : Int32)), .val (.int ix1), .val (.int (ix2 - (1 : Int32)))] [(dV ta1), (.int (0 : Int32)), (.ref b2)])) rfl rfl (hb hby d1_371)
  have N30 := Fr.snoc X30 N25 gnc12_1
  have Vq30 : Arv Z h30 b2 k2 .double (2 : Int32) [(dV ta1), dZ] dZ := Arv.set Ar29 aq29 aS29 aN29 aH29 aG29 rfl W30 0 rfl (Nat.le_of_ble_eq_true rfl)
  replace E_a_c12 := E_a_c12.wr W30
  replace V_ti_c12 := V_ti_c12.other W30 nesc12_7
  replace V_va_c12 := V_va_c12.other W30 nesc12_8
  replace E_al_c12 := E_al_c12.wr W30
  replace F_s_c12 := F_s_c12.other W30 (Or.inl nesc12_9)
  replace F_e_c12 := F_e_c12.other W30 (Or.inl nesc12_9)
  replace V_b_c12 := V_b_c12.other W30 nesc12_10
  replace E_x2_c12 := E_x2_c12.wr W30
  replace F_x2_c12 := F_x2_c12.other W30 (Or.inl nesc12_12)
  replace Fq4_c12 := Fq4_c12.other W30 (Or.inl nesc12_6)
  replace V_b7_c12 := V_b7_c12.other W30 (Ne.symm nesc12_20)
  replace Fq9_c12 := Fq9_c12.other W30 (Or.inl nesc12_6)
  replace V_b14 := V_b14.other W30 (Ne.symm ne_b2_b14)
  replace Fq16 := Fq16.other W30 (Or.inl nesc12_6)
  have Zs31 := Nat.le_trans Zs17 (Keep.of_wr W30).1
  have KC31 := KC17.wr W30 (Or.inr szc12_0)
  obtain ⟨T32, X32, e32, st32⟩ := getF X30 hx hZ hown (host := "") (Or.inl (tw60 hw)) Via.refl e30 Fq9_c12 (g := (mkF m 373 #[.val (.ref a), .val (.ref ti), .val (.ref va), .val (.ref al), .val (.int (0 : Int32)), .val (.int ix1), .val (.int (ix2 - (1 : Int32)))] [(.ref a)])) rfl rfl (hb hby d1_373)
  obtain ⟨cl33, Ar33, aq33, aS33, aN33, aH33, aG33⟩ := id V_b7_c12
  have hin34 : ¬ ((0 : Int32) < 0 ∨ cl33.slots.size ≤ ((0 : Int32)).toNatClampNeg) := inb_of aS33 ⟨by decide, by decide⟩
  obtain ⟨T34, h34, X34, e34, W34, st34⟩ := stD X32 hx hZ e32 Ar33 (j := (0 : Int32)) hin34 (g := (mkF m 391 #[.val (.ref a), .val (.ref ti), .val (.ref va), .val (.ref al), .val (.int (0 : Int32)), .val (.int ix1), .val (.int (ix2 - (1 : Int32)))] [dZ, (.int (0 : Int32)), (.ref b7)])) rfl rfl (hb hby d1_391)
  have N34 := Fr.snoc X34 N30 gnc12_2
  have Vq34 : Arv Z h34 b7 k7 .double (2 : Int32) [dZ, dZ] dZ := Arv.set Ar33 aq33 aS33 aN33 aH33 aG33 rfl W34 0 rfl (Nat.le_of_ble_eq_true rfl)
  replace E_a_c12 := E_a_c12.wr W34
  replace V_ti_c12 := V_ti_c12.other W34 nesc12_14
  replace V_va_c12 := V_va_c12.other W34 nesc12_15
  replace E_al_c12 := E_al_c12.wr W34
  replace F_s_c12 := F_s_c12.other W34 (Or.inl nesc12_16)
  replace F_e_c12 := F_e_c12.other W34 (Or.inl nesc12_16)
  replace V_b_c12 := V_b_c12.other W34 nesc12_17
  replace E_x2_c12 := E_x2_c12.wr W34
  replace F_x2_c12 := F_x2_c12.other W34 (Or.inl nesc12_19)
  replace Fq4_c12 := Fq4_c12.other W34 (Or.inl nesc12_13)
  replace Fq9_c12 := Fq9_c12.other W34 (Or.inl nesc12_13)
  replace V_b14 := V_b14.other W34 (Ne.symm ne_b7_b14)
  replace Fq16 := Fq16.other W34 (Or.inl nesc12_13)
  replace Vq30 := Vq30.other W34 nesc12_20
  have Zs35 := Nat.le_trans Zs31 (Keep.of_wr W34).1
  have KC35 := KC31.wr W34 (Or.inr szc12_1)
  have pre36 : Pr p e below I0 T34 (mkF m 392 #[.val (.ref a), .val (.ref ti), .val (.ref va), .val (.ref al), .val (.int (0 : Int32)), .val (.int ix1), .val (.int (ix2 - (1 : Int32)))] []) := by
   intro tg kk
   refine pre12 tg ?_
   refine XS.aloadN X12.here hx rfl (hb hby d1_279) rfl rfl ?_
   refine XS.aloadN X12.here hx rfl (hb hby d1_280) rfl rfl ?_
   refine st13.trans ?_
   refine st14 _ ?_
   refine st16 _ ?_
   refine XS.iconst X16.here hx rfl (hb hby d1_291) ?_
   refine XS.istore X16.here hx rfl (hb hby d1_292) rfl (l' := #[.val (.ref a), .val (.ref ti), .val (.ref va), .val (.ref al), .val (.int (0 : Int32)), .unset, .unset]) rfl ?_
   refine XS.iload X16.here hx rfl (hb hby d1_294) rfl ?_
   refine XS.aloadN X16.here hx rfl (hb hby d1_296) rfl rfl ?_
   refine st18.trans ?_
   refine XS.icmpNo X18.here hx rfl (hb hby d1_302) rfl (XT.ii_ge_f (by decide)) ?_
   refine XS.aloadN X18.here hx rfl (hb hby d1_305) rfl rfl ?_
   refine XS.iload X18.here hx rfl (hb hby d1_306) rfl ?_
   refine st19.trans ?_
   refine st20 _ ?_
   refine st21.trans ?_
   refine XS.istore X21.here hx rfl (hb hby d1_319) rfl (l' := #[.val (.ref a), .val (.ref ti), .val (.ref va), .val (.ref al), .val (.int (0 : Int32)), .val (.int ix1), .unset]) rfl ?_
   refine XS.iload X21.here hx rfl (hb hby d1_321) rfl ?_
   refine XS.iconst X21.here hx rfl (hb hby d1_323) ?_
   refine XS.iadd X21.here hx rfl (hb hby d1_324) rfl ?_
   refine XS.aloadN X21.here hx rfl (hb hby d1_325) rfl rfl ?_
   refine st22.trans ?_
   refine XS.icmpNo X22.here hx rfl (hb hby d1_331) rfl (XT.ii_ge_f (by decide)) ?_
   refine XS.aloadN X22.here hx rfl (hb hby d1_334) rfl rfl ?_
   refine XS.iload X22.here hx rfl (hb hby d1_335) rfl ?_
   refine XS.iconst X22.here hx rfl (hb hby d1_337) ?_
   refine XS.iadd X22.here hx rfl (hb hby d1_338) rfl ?_
   refine st23.trans ?_
   refine st24 _ ?_
   refine st25.trans ?_
   refine XS.iconst X25.here hx rfl (hb hby d1_350) ?_
   refine XS.isub X25.here hx rfl (hb hby d1_351) rfl ?_
   refine XS.goto X25.here hx rfl (pc0 := 352) (pc' := 359) rfl (hb hby d1_352) (by decide) (by decide) ?_
   refine XS.istore X25.here hx rfl (hb hby d1_359) rfl (l' := #[.val (.ref a), .val (.ref ti), .val (.ref va), .val (.ref al), .val (.int (0 : Int32)), .val (.int ix1), .val (.int (ix2 - (1 : Int32)))]) rfl ?_
   refine XS.aloadN X25.here hx rfl (hb hby d1_361) rfl rfl ?_
   refine st26 _ ?_
   refine XS.iload X26.here hx rfl (hb hby d1_365) rfl ?_
   refine XS.aloadN X26.here hx rfl (hb hby d1_367) rfl rfl ?_
   refine XS.iload X26.here hx rfl (hb hby d1_368) rfl ?_
   refine X26.daload hx (j := ix1) (v := (dV ta1)) (by rw [e26]; exact Ar27.1) (State.isArrayOf_alike hZ.alike Ar27.2.1) Ar27.2.2 hin28 hat28 (g := (mkF m 370 #[.val (.ref a), .val (.ref ti), .val (.ref va), .val (.ref al), .val (.int (0 : Int32)), .val (.int ix1), .val (.int (ix2 - (1 : Int32)))] [(.int ix1), (.ref ti), (.int (0 : Int32)), (.ref b2)])) rfl rfl (hb hby d1_370) _ ?_
   refine st30 _ ?_
   refine XS.aloadN X30.here hx rfl (hb hby d1_372) rfl rfl ?_
   refine st32 _ ?_
   refine XS.iload X32.here hx rfl (hb hby d1_376) rfl ?_
   refine XS.iload X32.here hx rfl (hb hby d1_378) rfl ?_
   refine XS.ifNo X32.here hx rfl (hb hby d1_380) rfl (XT.i0_ne_f (by decide)) ?_
   refine XS.dconst0 X32.here hx rfl (v := FP.l2d (0 : Int64)) (hb hby d1_383) own_dc0 ?_
   refine XS.goto X32.here hx rfl (pc0 := 384) (pc' := 391) rfl (hb hby d1_384) (by decide) (by decide) ?_
   refine st34 _ ?_
   exact kk
  exact ⟨T34, _, h34, b14, k14, X34, N34, e34, Zs35, KC35, E_a_c12, V_ti_c12, V_va_c12, E_al_c12, F_s_c12, F_e_c12, V_b_c12, E_x2_c12, F_x2_c12, Fq4_c12, Fq9_c12, V_b14, Fq16, Vq30, Vq34, gn_b14, sz_b14, ne_a_b14, ne_ti_b14, ne_va_b14, ne_al_b14, ne_b_b14, ne_x1_b14, ne_x2_b14, ne_b2_b14, ne_b7_b14, pre36⟩
 clear pre12 X12 N12 e12 KC12 Zs12 E_a_c12 F_rights_c12 V_ti_c12 V_va_c12 E_al_c12 F_s_c12 F_e_c12 V_b_c12 E_x1_c12 E_x2_c12 F_x1_c12 F_x2_c12 V_b2_c12 Fq4_c12 V_b7_c12 Fq9_c12
 obtain ⟨T69, lo69, Hc69, X69, N69, e69, Zs69, KC69, E_a_c69, E_al_c69, F_s_c69, Fq4_c69, Fq9_c69, Fq16_c69, Vq54_c69, Vq60_c69, Vq66_c69, pre69⟩ : ∃ (T69 : State) (lo69 : List Loc) (Hc69 : Heap), Stand p l e R5_7_28_108 s m #[(.ref a), (.ref ti), (.ref va)] below meth c T69 lo69 7 25 ∧ Fr n0 lo69 ∧ T69.heap = Hc69 ∧ n0 ≤ Hc69.size ∧ Keep h0 Hc69 [a] ∧ Exa Z Hc69 a cF ∧ Exa Z Hc69 al aL ∧ Fld Z Hc69 al aL "size" "I" (.int (2 : Int32)) ∧ Fld Z Hc69 a cF "instants" "[D" (.ref b2) ∧ Fld Z Hc69 a cF "lefts" "[D" (.ref b7) ∧ Fld Z Hc69 a cF "rights" "[D" (.ref b14) ∧ Arv Z Hc69 b2 k2 .double (2 : Int32) [(dV ta1), (dV ta2)] dZ ∧ Arv Z Hc69 b7 k7 .double (2 : Int32) [dZ, (dV tb2)] dZ ∧ Arv Z Hc69 b14 k14 .double (2 : Int32) [(dV tc1), (dV tc2)] dZ ∧ Pr p e below I0 T69 (mkF m 403 #[.val (.ref a), .val (.ref ti), .val (.ref va), .val (.ref al), .val (.int (1 : Int32)), .val (.int ix2), .val (.int (ln - (1 : Int32)))] []) := by
  obtain ⟨T38, X38, e38, st38⟩ := getF X37 hx hZ hown (host := "") (Or.inl (tw62 hw)) Via.refl e37 Fq16_c37 (g := (mkF m 393 #[.val (.ref a), .val (.ref ti), .val (.ref va), .val (.ref al), .val (.int (0 : Int32)), .val (.int ix1), .val (.int (ix2 - (1 : Int32)))] [(.ref a)])) rfl rfl (hb hby d1_393)
  obtain ⟨cl39, Ar39, aq39, aS39, aN39, aH39, aG39⟩ := id V_va_c37
  have hin40 : ¬ ((ix2 - (1 : Int32)) < 0 ∨ cl39.slots.size ≤ ((ix2 - (1 : Int32))).toNatClampNeg) := inb_of aS39 he1
  have hat40 : cl39.slots[((ix2 - (1 : Int32))).toNatClampNeg]? = some (dV tc1) := Has.at aH39 hin40 hc1
  obtain ⟨cl41, Ar41, aq41, aS41, aN41, aH41, aG41⟩ := id V_b14_c37
  have hin42 : ¬ ((0 : Int32) < 0 ∨ cl41.slots.size ≤ ((0 : Int32)).toNatClampNeg) := inb_of aS41 ⟨by decide, by decide⟩
  obtain ⟨T42, h42, X42, e42, W42, st42⟩ := stD X38 hx hZ e38 Ar41 (j := (0 : Int32)) hin42 (g := (mkF m 402 #[.val (.ref a), .val (.ref ti), .val (.ref va), .val (.ref al), .val (.int (0 : Int32)), .val (.int ix1), .val (.int (ix2 - (1 : Int32)))] [(dV tc1), (.int (0 : Int32)), (.ref b14)])) rfl rfl (hb hby d1_402)
  have N42 := Fr.snoc X42 N37 gnc37_3
  have Vq42 : Arv Z h42 b14 k14 .double (2 : Int32) [(dV tc1), dZ] dZ := Arv.set Ar41 aq41 aS41 aN41 aH41 aG41 rfl W42 0 rfl (Nat.le_of_ble_eq_true rfl)
  replace E_a_c37 := E_a_c37.wr W42
  replace V_ti_c37 := V_ti_c37.other W42 nesc37_22
  replace V_va_c37 := V_va_c37.other W42 nesc37_23
  replace E_al_c37 := E_al_c37.wr W42
  replace F_s_c37 := F_s_c37.other W42 (Or.inl nesc37_24)
  replace F_e_c37 := F_e_c37.other W42 (Or.inl nesc37_24)
  replace V_b_c37 := V_b_c37.other W42 nesc37_25
  replace E_x2_c37 := E_x2_c37.wr W42
  replace F_x2_c37 := F_x2_c37.other W42 (Or.inl nesc37_27)
  replace Fq4_c37 := Fq4_c37.other W42 (Or.inl nesc37_21)
  replace Fq9_c37 := Fq9_c37.other W42 (Or.inl nesc37_21)
  replace Fq16_c37 := Fq16_c37.other W42 (Or.inl nesc37_21)
  replace Vq30_c37 := Vq30_c37.other W42 nesc37_28
  replace Vq34_c37 := Vq34_c37.other W42 nesc37_29
  have Zs43 := Nat.le_trans Zs37 (Keep.of_wr W42).1
  have KC43 := KC37.wr W42 (Or.inr szc37_2)
  obtain ⟨cq44, kq44, q44a, q44b, q44c⟩ := isOf hZ e42 E_al_c37
  obtain ⟨_, _, ⟨T44, L44, k44, n44⟩, -, X44, ⟨Lc44, hQ44, l44, y44, z44⟩, st44⟩ := X42.interfaceBack hx (xi := M16) (y := M4) hown (mvT hZ (tw47 hw)) (mvT hZ (tw48 hw)) (mvT hZ (tw49 hw)) (mvT hZ (tw50 hw)) (mvT hZ (tw51 hw)) (mvT hZ (tw52 hw)) (mvT hZ (tw53 hw)) (mvT hZ (tw54 hw)) (by decide) (backOf (W := 1) (rmSz l Z a0 hw [] al ((2 : Int32)) h42 n0 Zs43 F_s_c37) hZ (tw55 hw) (tw25 hw) (by decide) (by decide)) q44a q44b q44c (g := (mkF m 297 #[.val (.ref a), .val (.ref ti), .val (.ref va), .val (.ref al), .val (.int (1 : Int32)), .val (.int ix1), .val (.int (ix2 - (1 : Int32)))] [(.ref al), (.int (1 : Int32))])) rfl (by rw [hml]; rfl) (Steps.refl _) (argsL := []) (rest := [(.int (1 : Int32))]) (lenOf pd___I rfl) rfl (own_mr rfl) (hb hby d1_297) (fun _ _ => ⟨rfl, e42, (by decide : 7 + 0 ≤ _), (by decide : 25 + 0 ≤ _)⟩)
  dsimp only [Pt.U, Pt.locs, Pt.cells, Pt.slots] at X44 l44 y44 z44 st44 hQ44
  rw [l44, y44, z44] at X44
  obtain ⟨rfl, N44q, hh44⟩ := hQ44
  have N44 := Fr.app N42 N44q
  obtain ⟨cq45, kq45, q45a, q45b, q45c⟩ := isOf hZ hh44 E_al_c37
  obtain ⟨_, _, ⟨T45, L45, k45, n45⟩, -, X45, ⟨Lc45, hQ45, l45, y45, z45⟩, st45⟩ := X44.interfaceBack hx (xi := M17) (y := M15) hown (mvT hZ (tw120 hw)) (mvT hZ (tw121 hw)) (mvT hZ (tw122 hw)) (mvT hZ (tw123 hw)) (mvT hZ (tw124 hw)) (mvT hZ (tw125 hw)) (mvT hZ (tw126 hw)) (mvT hZ (tw54 hw)) (by decide) (backOf (W := 0) (rmGt l Z a0 hw [] al b b_k ((1 : Int32)) ([(.ref x1), (.ref x2), .null, .null, .null, .null, .null, .null, .null, .null]) x2 ((2 : Int32)) h42 n0 Zs43 E_al_c37 F_s_c37 F_e_c37 V_b_c37 (by decide) (by decide) rfl) hZ (tw127 hw) (tw25 hw) (by decide) (by decide)) q45a q45b q45c (g := (mkF m 308 #[.val (.ref a), .val (.ref ti), .val (.ref va), .val (.ref al), .val (.int (1 : Int32)), .val (.int ix1), .val (.int (ix2 - (1 : Int32)))] [(.int (1 : Int32)), (.ref al)])) rfl (by rw [hml]; rfl) (Steps.refl _) (argsL := [(.int (1 : Int32))]) (rest := []) (lenOf pd__I_Ljava_lang_Object_ rfl) rfl (own_mr rfl) (hb hby d1_308) (fun _ _ => ⟨rfl, hh44, (by decide : 7 + 0 ≤ _), (by decide : 25 + 0 ≤ _)⟩)
  dsimp only [Pt.U, Pt.locs, Pt.cells, Pt.slots] at X45 l45 y45 z45 st45 hQ45
  rw [l45, y45, z45] at X45
  obtain ⟨rfl, N45q, hh45⟩ := hQ45
  have N45 := Fr.app N44 N45q
  obtain ⟨T46, X46, e46, st46⟩ := castY X45 hx hZ hown (tw141 hw) hh45 (Ins.self E_x2_c37) (g := (mkF m 313 #[.val (.ref a), .val (.ref ti), .val (.ref va), .val (.ref al), .val (.int (1 : Int32)), .val (.int ix1), .val (.int (ix2 - (1 : Int32)))] [(.ref x2)])) rfl rfl (hb hby d1_313)
  obtain ⟨cq47, kq47, q47a, q47b, q47c⟩ := isOf hZ e46 E_x2_c37
  obtain ⟨_, _, ⟨T47, L47, k47, n47⟩, -, X47, ⟨Lc47, hQ47, l47, y47, z47⟩, st47⟩ := X46.virtualBack hx (y := M11) (z := M11) hown (mvT hZ (tw143 hw)) (mvT hZ (tw144 hw)) (notFace_of_selects (args := #[]) (mvT hZ (tw146 hw))) (mvT hZ (tw146 hw)) (mvT hZ (tw145 hw)) (by decide) (backOf (W := 0) (rmIV l Z a0 hw [] x2 ix2 h42 n0 Zs43 F_x2_c37) hZ (tw147 hw) (tw84 hw) (by decide) (by decide)) q47a q47c (g := (mkF m 316 #[.val (.ref a), .val (.ref ti), .val (.ref va), .val (.ref al), .val (.int (1 : Int32)), .val (.int ix1), .val (.int (ix2 - (1 : Int32)))] [(.ref x2)])) rfl (by rw [hml]; rfl) (Steps.refl _) (argsL := []) (rest := []) (lenOf pd___I rfl) rfl (own_mr rfl) (hb hby d1_316) (fun _ _ => ⟨rfl, e46, (by decide : 7 + 0 ≤ _), (by decide : 25 + 0 ≤ _)⟩)
  dsimp only [Pt.U, Pt.locs, Pt.cells, Pt.slots] at X47 l47 y47 z47 st47 hQ47
  rw [l47, y47, z47] at X47
  obtain ⟨rfl, N47q, hh47⟩ := hQ47
  have N47 := Fr.app N45 N47q
  obtain ⟨cq48, kq48, q48a, q48b, q48c⟩ := isOf hZ hh47 E_al_c37
  obtain ⟨_, _, ⟨T48, L48, k48, n48⟩, -, X48, ⟨Lc48, hQ48, l48, y48, z48⟩, st48⟩ := X47.interfaceBack hx (xi := M16) (y := M4) hown (mvT hZ (tw47 hw)) (mvT hZ (tw48 hw)) (mvT hZ (tw49 hw)) (mvT hZ (tw50 hw)) (mvT hZ (tw51 hw)) (mvT hZ (tw52 hw)) (mvT hZ (tw53 hw)) (mvT hZ (tw54 hw)) (by decide) (backOf (W := 1) (rmSz l Z a0 hw [] al ((2 : Int32)) h42 n0 Zs43 F_s_c37) hZ (tw55 hw) (tw25 hw) (by decide) (by decide)) q48a q48b q48c (g := (mkF m 326 #[.val (.ref a), .val (.ref ti), .val (.ref va), .val (.ref al), .val (.int (1 : Int32)), .val (.int ix2), .val (.int (ix2 - (1 : Int32)))] [(.ref al), (.int (2 : Int32))])) rfl (by rw [hml]; rfl) (Steps.refl _) (argsL := []) (rest := [(.int (2 : Int32))]) (lenOf pd___I rfl) rfl (own_mr rfl) (hb hby d1_326) (fun _ _ => ⟨rfl, hh47, (by decide : 7 + 0 ≤ _), (by decide : 25 + 0 ≤ _)⟩)
  dsimp only [Pt.U, Pt.locs, Pt.cells, Pt.slots] at X48 l48 y48 z48 st48 hQ48
  rw [l48, y48, z48] at X48
  obtain ⟨rfl, N48q, hh48⟩ := hQ48
  have N48 := Fr.app N47 N48q
  obtain ⟨cl49, Ar49, aq49, aS49, aN49, aH49, aG49⟩ := id V_ti_c37
  obtain ⟨T50, X50, e50, st50⟩ := getF X48 hx hZ hown (host := "") (Or.inl (tw58 hw)) Via.refl hh48 Fq4_c37 (g := (mkF m 362 #[.val (.ref a), .val (.ref ti), .val (.ref va), .val (.ref al), .val (.int (1 : Int32)), .val (.int ix2), .val (.int (ln - (1 : Int32)))] [(.ref a)])) rfl rfl (hb hby d1_362)
  obtain ⟨cl51, Ar51, aq51, aS51, aN51, aH51, aG51⟩ := id V_ti_c37
  have hin52 : ¬ (ix2 < 0 ∨ cl51.slots.size ≤ (ix2).toNatClampNeg) := inb_of aS51 hi2
  have hat52 : cl51.slots[(ix2).toNatClampNeg]? = some (dV ta2) := Has.at aH51 hin52 ht2
  obtain ⟨cl53, Ar53, aq53, aS53, aN53, aH53, aG53⟩ := id Vq30_c37
  have hin54 : ¬ ((1 : Int32) < 0 ∨ cl53.slots.size ≤ ((1 : Int32)).toNatClampNeg) := inb_of aS53 ⟨by decide, by decide⟩
  obtain ⟨T54, h54, X54, e54, W54, st54⟩ := stD X50 hx hZ e50 Ar53 (j := (1 : Int32)) hin54 (g := (mkF m 371 #[.val (.ref a), .val (.ref ti), .val (.ref va), .val (.ref al), .val (.int (1 : Int32)), .val (.int ix2), .val (.int (ln - (1 : Int32)))] [(dV ta2), (.int (1 : Int32)), (.ref b2)])) rfl rfl (hb hby d1_371)
  have N54 := Fr.snoc X54 N48 gnc12_1
  have Vq54 : Arv Z h54 b2 k2 .double (2 : Int32) [(dV ta1), (dV ta2)] dZ := Arv.set Ar53 aq53 aS53 aN53 aH53 aG53 rfl W54 1 rfl (Nat.le_of_ble_eq_true rfl)
  replace E_a_c37 := E_a_c37.wr W54
  replace V_va_c37 := V_va_c37.other W54 nesc12_8
  replace E_al_c37 := E_al_c37.wr W54
  replace F_s_c37 := F_s_c37.other W54 (Or.inl nesc12_9)
  replace Fq4_c37 := Fq4_c37.other W54 (Or.inl nesc12_6)
  replace Fq9_c37 := Fq9_c37.other W54 (Or.inl nesc12_6)
  replace Fq16_c37 := Fq16_c37.other W54 (Or.inl nesc12_6)
  replace Vq34_c37 := Vq34_c37.other W54 (Ne.symm nesc12_20)
  replace Vq42 := Vq42.other W54 (Ne.symm nesc37_28)
  have Zs55 := Nat.le_trans Zs43 (Keep.of_wr W54).1
  have KC55 := KC43.wr W54 (Or.inr szc12_0)
  obtain ⟨T56, X56, e56, st56⟩ := getF X54 hx hZ hown (host := "") (Or.inl (tw60 hw)) Via.refl e54 Fq9_c37 (g := (mkF m 373 #[.val (.ref a), .val (.ref ti), .val (.ref va), .val (.ref al), .val (.int (1 : Int32)), .val (.int ix2), .val (.int (ln - (1 : Int32)))] [(.ref a)])) rfl rfl (hb hby d1_373)
  obtain ⟨cl57, Ar57, aq57, aS57, aN57, aH57, aG57⟩ := id V_va_c37
  have hin58 : ¬ (ix2 < 0 ∨ cl57.slots.size ≤ (ix2).toNatClampNeg) := inb_of aS57 hi2
  have hat58 : cl57.slots[(ix2).toNatClampNeg]? = some (dV tb2) := Has.at aH57 hin58 hv2
  obtain ⟨cl59, Ar59, aq59, aS59, aN59, aH59, aG59⟩ := id Vq34_c37
  have hin60 : ¬ ((1 : Int32) < 0 ∨ cl59.slots.size ≤ ((1 : Int32)).toNatClampNeg) := inb_of aS59 ⟨by decide, by decide⟩
  obtain ⟨T60, h60, X60, e60, W60, st60⟩ := stD X56 hx hZ e56 Ar59 (j := (1 : Int32)) hin60 (g := (mkF m 391 #[.val (.ref a), .val (.ref ti), .val (.ref va), .val (.ref al), .val (.int (1 : Int32)), .val (.int ix2), .val (.int (ln - (1 : Int32)))] [(dV tb2), (.int (1 : Int32)), (.ref b7)])) rfl rfl (hb hby d1_391)
  have N60 := Fr.snoc X60 N54 gnc12_2
  have Vq60 : Arv Z h60 b7 k7 .double (2 : Int32) [dZ, (dV tb2)] dZ := Arv.set Ar59 aq59 aS59 aN59 aH59 aG59 rfl W60 1 rfl (Nat.le_of_ble_eq_true rfl)
  replace E_a_c37 := E_a_c37.wr W60
  replace V_va_c37 := V_va_c37.other W60 nesc12_15
  replace E_al_c37 := E_al_c37.wr W60
  replace F_s_c37 := F_s_c37.other W60 (Or.inl nesc12_16)
  replace Fq4_c37 := Fq4_c37.other W60 (Or.inl nesc12_13)
  replace Fq9_c37 := Fq9_c37.other W60 (Or.inl nesc12_13)
  replace Fq16_c37 := Fq16_c37.other W60 (Or.inl nesc12_13)
  replace Vq42 := Vq42.other W60 (Ne.symm nesc37_29)
  replace Vq54 := Vq54.other W60 nesc12_20
  have Zs61 := Nat.le_trans Zs55 (Keep.of_wr W60).1
  have KC61 := KC55.wr W60 (Or.inr szc12_1)
  obtain ⟨T62, X62, e62, st62⟩ := getF X60 hx hZ hown (host := "") (Or.inl (tw62 hw)) Via.refl e60 Fq16_c37 (g := (mkF m 393 #[.val (.ref a), .val (.ref ti), .val (.ref va), .val (.ref al), .val (.int (1 : Int32)), .val (.int ix2), .val (.int (ln - (1 : Int32)))] [(.ref a)])) rfl rfl (hb hby d1_393)
  obtain ⟨cl63, Ar63, aq63, aS63, aN63, aH63, aG63⟩ := id V_va_c37
  have hin64 : ¬ ((ln - (1 : Int32)) < 0 ∨ cl63.slots.size ≤ ((ln - (1 : Int32))).toNatClampNeg) := inb_of aS63 he2
  have hat64 : cl63.slots[((ln - (1 : Int32))).toNatClampNeg]? = some (dV tc2) := Has.at aH63 hin64 hc2
  obtain ⟨cl65, Ar65, aq65, aS65, aN65, aH65, aG65⟩ := id Vq42
  have hin66 : ¬ ((1 : Int32) < 0 ∨ cl65.slots.size ≤ ((1 : Int32)).toNatClampNeg) := inb_of aS65 ⟨by decide, by decide⟩
  obtain ⟨T66, h66, X66, e66, W66, st66⟩ := stD X62 hx hZ e62 Ar65 (j := (1 : Int32)) hin66 (g := (mkF m 402 #[.val (.ref a), .val (.ref ti), .val (.ref va), .val (.ref al), .val (.int (1 : Int32)), .val (.int ix2), .val (.int (ln - (1 : Int32)))] [(dV tc2), (.int (1 : Int32)), (.ref b14)])) rfl rfl (hb hby d1_402)
  have N66 := Fr.snoc X66 N60 gnc37_3
  have Vq66 : Arv Z h66 b14 k14 .double (2 : Int32) [(dV tc1), (dV tc2)] dZ := Arv.set Ar65 aq65 aS65 aN65 aH65 aG65 rfl W66 1 rfl (Nat.le_of_ble_eq_true rfl)
  replace E_a_c37 := E_a_c37.wr W66
  replace E_al_c37 := E_al_c37.wr W66
  replace F_s_c37 := F_s_c37.other W66 (Or.inl nesc37_24)
  replace Fq4_c37 := Fq4_c37.other W66 (Or.inl nesc37_21)
  replace Fq9_c37 := Fq9_c37.other W66 (Or.inl nesc37_21)
  replace Fq16_c37 := Fq16_c37.other W66 (Or.inl nesc37_21)
  replace Vq54 := Vq54.other W66 nesc37_28
  replace Vq60 := Vq60.other W66 nesc37_29
  have Zs67 := Nat.le_trans Zs61 (Keep.of_wr W66).1
  have KC67 := KC61.wr W66 (Or.inr szc37_2)
  have pre68 : Pr p e below I0 T66 (mkF m 403 #[.val (.ref a), .val (.ref ti), .val (.ref va), .val (.ref al), .val (.int (1 : Int32)), .val (.int ix2), .val (.int (ln - (1 : Int32)))] []) := by
   intro tg kk
   refine pre37 tg ?_
   refine XS.aloadN X37.here hx rfl (hb hby d1_392) rfl rfl ?_
   refine st38 _ ?_
   refine XS.iload X38.here hx rfl (hb hby d1_396) rfl ?_
   refine XS.aloadN X38.here hx rfl (hb hby d1_398) rfl rfl ?_
   refine XS.iload X38.here hx rfl (hb hby d1_399) rfl ?_
   refine X38.daload hx (j := (ix2 - (1 : Int32))) (v := (dV tc1)) (by rw [e38]; exact Ar39.1) (State.isArrayOf_alike hZ.alike Ar39.2.1) Ar39.2.2 hin40 hat40 (g := (mkF m 401 #[.val (.ref a), .val (.ref ti), .val (.ref va), .val (.ref al), .val (.int (0 : Int32)), .val (.int ix1), .val (.int (ix2 - (1 : Int32)))] [(.int (ix2 - (1 : Int32))), (.ref va), (.int (0 : Int32)), (.ref b14)])) rfl rfl (hb hby d1_401) _ ?_
   refine st42 _ ?_
   refine XS.iinc X42.here hx rfl (hb hby d1_403) rfl (l' := #[.val (.ref a), .val (.ref ti), .val (.ref va), .val (.ref al), .val (.int (1 : Int32)), .val (.int ix1), .val (.int (ix2 - (1 : Int32)))]) rfl ?_
   refine XS.goto X42.here hx rfl (pc0 := 406) (pc' := 294) rfl (hb hby d1_406) (by decide) (by decide) ?_
   refine XS.iload X42.here hx rfl (hb hby d1_294) rfl ?_
   refine XS.aloadN X42.here hx rfl (hb hby d1_296) rfl rfl ?_
   refine st44.trans ?_
   refine XS.icmpNo X44.here hx rfl (hb hby d1_302) rfl (XT.ii_ge_f (by decide)) ?_
   refine XS.aloadN X44.here hx rfl (hb hby d1_305) rfl rfl ?_
   refine XS.iload X44.here hx rfl (hb hby d1_306) rfl ?_
   refine st45.trans ?_
   refine st46 _ ?_
   refine st47.trans ?_
   refine XS.istore X47.here hx rfl (hb hby d1_319) rfl (l' := #[.val (.ref a), .val (.ref ti), .val (.ref va), .val (.ref al), .val (.int (1 : Int32)), .val (.int ix2), .val (.int (ix2 - (1 : Int32)))]) rfl ?_
   refine XS.iload X47.here hx rfl (hb hby d1_321) rfl ?_
   refine XS.iconst X47.here hx rfl (hb hby d1_323) ?_
   refine XS.iadd X47.here hx rfl (hb hby d1_324) rfl ?_
   refine XS.aloadN X47.here hx rfl (hb hby d1_325) rfl rfl ?_
   refine st48.trans ?_
   refine XS.icmpYes X48.here hx rfl (pc0 := 331) (pc' := 355) rfl (hb hby d1_331) rfl (XT.ii_ge_t (by decide)) (by decide) (by decide) ?_
   refine XS.aloadN X48.here hx rfl (hb hby d1_355) rfl rfl ?_
   refine X48.arraylength hx (by rw [hh48]; exact Ar49.1) (State.isArrayOf_alike hZ.alike Ar49.2.1) (g := (mkF m 356 #[.val (.ref a), .val (.ref ti), .val (.ref va), .val (.ref al), .val (.int (1 : Int32)), .val (.int ix2), .val (.int (ix2 - (1 : Int32)))] [(.ref ti)])) rfl rfl (hb hby d1_356) _ ?_
   rw [len_of aS49 aN49]
   refine XS.iconst X48.here hx rfl (hb hby d1_357) ?_
   refine XS.isub X48.here hx rfl (hb hby d1_358) rfl ?_
   refine XS.istore X48.here hx rfl (hb hby d1_359) rfl (l' := #[.val (.ref a), .val (.ref ti), .val (.ref va), .val (.ref al), .val (.int (1 : Int32)), .val (.int ix2), .val (.int (ln - (1 : Int32)))]) rfl ?_
   refine XS.aloadN X48.here hx rfl (hb hby d1_361) rfl rfl ?_
   refine st50 _ ?_
   refine XS.iload X50.here hx rfl (hb hby d1_365) rfl ?_
   refine XS.aloadN X50.here hx rfl (hb hby d1_367) rfl rfl ?_
   refine XS.iload X50.here hx rfl (hb hby d1_368) rfl ?_
   refine X50.daload hx (j := ix2) (v := (dV ta2)) (by rw [e50]; exact Ar51.1) (State.isArrayOf_alike hZ.alike Ar51.2.1) Ar51.2.2 hin52 hat52 (g := (mkF m 370 #[.val (.ref a), .val (.ref ti), .val (.ref va), .val (.ref al), .val (.int (1 : Int32)), .val (.int ix2), .val (.int (ln - (1 : Int32)))] [(.int ix2), (.ref ti), (.int (1 : Int32)), (.ref b2)])) rfl rfl (hb hby d1_370) _ ?_
   refine st54 _ ?_
   refine XS.aloadN X54.here hx rfl (hb hby d1_372) rfl rfl ?_
   refine st56 _ ?_
   refine XS.iload X56.here hx rfl (hb hby d1_376) rfl ?_
   refine XS.iload X56.here hx rfl (hb hby d1_378) rfl ?_
   refine XS.ifYes X56.here hx rfl (pc0 := 380) (pc' := 387) rfl (hb hby d1_380) rfl (XT.i0_ne_t (by decide)) (by decide) (by decide) ?_
   refine XS.aloadN X56.here hx rfl (hb hby d1_387) rfl rfl ?_
   refine XS.iload X56.here hx rfl (hb hby d1_388) rfl ?_
   refine X56.daload hx (j := ix2) (v := (dV tb2)) (by rw [e56]; exact Ar57.1) (State.isArrayOf_alike hZ.alike Ar57.2.1) Ar57.2.2 hin58 hat58 (g := (mkF m 390 #[.val (.ref a), .val (.ref ti), .val (.ref va), .val (.ref al), .val (.int (1 : Int32)), .val (.int ix2), .val (.int (ln - (1 : Int32)))] [(.int ix2), (.ref va), (.int (1 : Int32)), (.ref b7)])) rfl rfl (hb hby d1_390) _ ?_
   refine st60 _ ?_
   refine XS.aloadN X60.here hx rfl (hb hby d1_392) rfl rfl ?_
   refine st62 _ ?_
   refine XS.iload X62.here hx rfl (hb hby d1_396) rfl ?_
   refine XS.aloadN X62.here hx rfl (hb hby d1_398) rfl rfl ?_
   refine XS.iload X62.here hx rfl (hb hby d1_399) rfl ?_
   refine X62.daload hx (j := (ln - (1 : Int32))) (v := (dV tc2)) (by rw [e62]; exact Ar63.1) (State.isArrayOf_alike hZ.alike Ar63.2.1) Ar63.2.2 hin64 hat64 (g := (mkF m 401 #[.val (.ref a), .val (.ref ti), .val (.ref va), .val (.ref al), .val (.int (1 : Int32)), .val (.int ix2), .val (.int (ln - (1 : Int32)))] [(.int (ln - (1 : Int32))), (.ref va), (.int (1 : Int32)), (.ref b14)])) rfl rfl (hb hby d1_401) _ ?_
   refine st66 _ ?_
   exact kk
  exact ⟨T66, _, h66, X66, N66, e66, Zs67, KC67, E_a_c37, E_al_c37, F_s_c37, Fq4_c37, Fq9_c37, Fq16_c37, Vq54, Vq60, Vq66, pre68⟩
 clear pre37 X37 N37 e37 KC37 Zs37 E_a_c37 V_ti_c37 V_va_c37 E_al_c37 F_s_c37 F_e_c37 V_b_c37 E_x2_c37 F_x2_c37 Fq4_c37 Fq9_c37 V_b14_c37 Fq16_c37 Vq30_c37 Vq34_c37
 obtain ⟨cq70, kq70, q70a, q70b, q70c⟩ := isOf hZ e69 E_al_c69
 obtain ⟨_, _, ⟨T70, L70, k70, n70⟩, -, X70, ⟨Lc70, hQ70, l70, y70, z70⟩, st70⟩ := X69.interfaceBack hx (xi := M16) (y := M4) hown (mvT hZ (tw47 hw)) (mvT hZ (tw48 hw)) (mvT hZ (tw49 hw)) (mvT hZ (tw50 hw)) (mvT hZ (tw51 hw)) (mvT hZ (tw52 hw)) (mvT hZ (tw53 hw)) (mvT hZ (tw54 hw)) (by decide) (backOf (W := 1) (rmSz l Z a0 hw [] al ((2 : Int32)) Hc69 n0 Zs69 F_s_c69) hZ (tw55 hw) (tw25 hw) (by decide) (by decide)) q70a q70b q70c (g := (mkF m 297 #[.val (.ref a), .val (.ref ti), .val (.ref va), .val (.ref al), .val (.int (2 : Int32)), .val (.int ix2), .val (.int (ln - (1 : Int32)))] [(.ref al), (.int (2 : Int32))])) rfl (by rw [hml]; rfl) (Steps.refl _) (argsL := []) (rest := [(.int (2 : Int32))]) (lenOf pd___I rfl) rfl (own_mr rfl) (hb hby d1_297) (fun _ _ => ⟨rfl, e69, (by decide : 7 + 0 ≤ _), (by decide : 25 + 0 ≤ _)⟩)
 dsimp only [Pt.U, Pt.locs, Pt.cells, Pt.slots] at X70 l70 y70 z70 st70 hQ70
 rw [l70, y70, z70] at X70
 obtain ⟨rfl, N70q, hh70⟩ := hQ70
 have N70 := Fr.app N69 N70q
 have pre71 : Pr p e below I0 T70 (mkF m 409 #[.val (.ref a), .val (.ref ti), .val (.ref va), .val (.ref al), .val (.int (2 : Int32)), .val (.int ix2), .val (.int (ln - (1 : Int32)))] []) := by
  intro tg kk
  refine pre69 tg ?_
  refine XS.iinc X69.here hx rfl (hb hby d1_403) rfl (l' := #[.val (.ref a), .val (.ref ti), .val (.ref va), .val (.ref al), .val (.int (2 : Int32)), .val (.int ix2), .val (.int (ln - (1 : Int32)))]) rfl ?_
  refine XS.goto X69.here hx rfl (pc0 := 406) (pc' := 294) rfl (hb hby d1_406) (by decide) (by decide) ?_
  refine XS.iload X69.here hx rfl (hb hby d1_294) rfl ?_
  refine XS.aloadN X69.here hx rfl (hb hby d1_296) rfl rfl ?_
  refine st70.trans ?_
  refine XS.icmpYes X70.here hx rfl (pc0 := 302) (pc' := 409) rfl (hb hby d1_302) rfl (XT.ii_ge_t (by decide)) (by decide) (by decide) ?_
  exact kk
 exact ⟨T70, _, Hc69, b2, k2, b7, k7, b14, k14, X70, N70, hh70, Zs69, KC69, E_a_c69, Fq4_c69, Fq9_c69, Fq16_c69, Vq54_c69, Vq60_c69, Vq66_c69, gnc12_1, szc12_0, gnc12_2, szc12_1, gnc37_3, szc37_2, pre71⟩
set_option maxRecDepth 65536 in
set_option maxHeartbeats 40000000 in
theorem sC3 {p : Program} {l : Launch} {e : Env} {s : State} {m : MethodId} {below : List Frame} {meth : Method} {c : Code} {T0 : State} {lo0 : List Loc} {Z : State} {a0 : Array Value} (hw : HW a0 Z) (hx : p.tables.exec = Jvm.exec) (hby : c.code = prog_37_method_1_code) (hml : c.maxLocals = 7) (hZ : Z.Warmed39 s.vm) (hown : s.vm.findClass cF = some m.cls) (hnm : meth.name = "<init>") (a : Addr) (ti : Addr) (ti_k : ClassId) (va : Addr) (va_k : ClassId) (ln : Int32) (lt : List Value) (lv : List Value) (iz : Int32) (al : Addr) (b : Addr) (b_k : ClassId) (x1 : Addr) (x2 : Addr) (x3 : Addr) (ix1 : Int32) (ix2 : Int32) (ix3 : Int32) (ta1 : Int64) (ta2 : Int64) (ta3 : Int64) (tb2 : Int64) (tb3 : Int64) (tc1 : Int64) (tc2 : Int64) (tc3 : Int64) {h0 hs : Heap} {n0 : Nat} (X0 : Stand p l e R5_7_28_108 s m #[(.ref a), (.ref ti), (.ref va)] below meth c T0 lo0 4 19) (N0 : Fr n0 lo0) (e0 : T0.heap = hs) (Z0 : n0 ≤ hs.size) (KC0 : Keep h0 hs [a]) (E_a : Exa Z hs a cF) (F_instants : Fld Z hs a cF "instants" "[D" .null) (F_lefts : Fld Z hs a cF "lefts" "[D" .null) (F_rights : Fld Z hs a cF "rights" "[D" .null) (V_ti : Arv Z hs ti ti_k .double ln lt dZ) (V_va : Arv Z hs va va_k .double ln lv dZ) (E_al : Exa Z hs al aL) (F_s : Fld Z hs al aL "size" "I" (.int (3 : Int32))) (F_e : Fld Z hs al aL "elementData" lO (.ref b)) (V_b : Arv Z hs b b_k (.object "java/lang/Object") (10 : Int32) [(.ref x1), (.ref x2), (.ref x3), .null, .null, .null, .null, .null, .null, .null] .null) (E_x1 : Exa Z hs x1 iN) (E_x2 : Exa Z hs x2 iN) (E_x3 : Exa Z hs x3 iN) (F_x1 : Fld Z hs x1 iN "value" "I" (.int ix1)) (F_x2 : Fld Z hs x2 iN "value" "I" (.int ix2)) (F_x3 : Fld Z hs x3 iN "value" "I" (.int ix3)) (g_a : n0 ≤ a) (ne_ti_a : ti ≠ a) (ne_va_a : va ≠ a) (ne_al_a : al ≠ a) (ne_b_a : b ≠ a) (ne_x1_a : x1 ≠ a) (ne_x2_a : x2 ≠ a) (ne_x3_a : x3 ≠ a) (hi1 : ¬ ix1 < 0 ∧ ix1 < ln) (ht1 : lt.getD (ix1).toNatClampNeg dZ = dV ta1) (he1 : ¬ (ix2 - (1 : Int32)) < 0 ∧ (ix2 - (1 : Int32)) < ln) (hc1 : lv.getD ((ix2 - (1 : Int32))).toNatClampNeg dZ = dV tc1) (hi2 : ¬ ix2 < 0 ∧ ix2 < ln) (ht2 : lt.getD (ix2).toNatClampNeg dZ = dV ta2) (he2 : ¬ (ix3 - (1 : Int32)) < 0 ∧ (ix3 - (1 : Int32)) < ln) (hc2 : lv.getD ((ix3 - (1 : Int32))).toNatClampNeg dZ = dV tc2) (hv2 : lv.getD (ix2).toNatClampNeg dZ = dV tb2) (hi3 : ¬ ix3 < 0 ∧ ix3 < ln) (ht3 : lt.getD (ix3).toNatClampNeg dZ = dV ta3) (he3 : ¬ (ln - (1 : Int32)) < 0 ∧ (ln - (1 : Int32)) < ln) (hc3 : lv.getD ((ln - (1 : Int32))).toNatClampNeg dZ = dV tc3) (hv3 : lv.getD (ix3).toNatClampNeg dZ = dV tb3) :
    ∃ (T1 : State) (lo1 : List Loc) (h1 : Heap) (di : Addr) (di_k : ClassId) (dl : Addr) (dl_k : ClassId) (dr : Addr) (dr_k : ClassId), Stand p l e R5_7_28_108 s m #[(.ref a), (.ref ti), (.ref va)] below meth c T1 lo1 7 28 ∧ Fr n0 lo1 ∧ T1.heap = h1 ∧ n0 ≤ h1.size ∧ Keep h0 h1 [a] ∧ Exa Z h1 a cF ∧ Fld Z h1 a cF "instants" "[D" (.ref di) ∧ Fld Z h1 a cF "lefts" "[D" (.ref dl) ∧ Fld Z h1 a cF "rights" "[D" (.ref dr) ∧ Arv Z h1 di di_k .double (3 : Int32) [(dV ta1), (dV ta2), (dV ta3)] dZ ∧ Arv Z h1 dl dl_k .double (3 : Int32) [dZ, (dV tb2), (dV tb3)] dZ ∧ Arv Z h1 dr dr_k .double (3 : Int32) [(dV tc1), (dV tc2), (dV tc3)] dZ ∧ n0 ≤ di ∧ h0.size ≤ di ∧ n0 ≤ dl ∧ h0.size ≤ dl ∧ n0 ≤ dr ∧ h0.size ≤ dr ∧ Pr p e below (T0.setTop (mkF m 255 #[.val (.ref a), .val (.ref ti), .val (.ref va), .val (.ref al), .val (.int iz), .unset, .unset] [])) T1 (mkF m 409 #[.val (.ref a), .val (.ref ti), .val (.ref va), .val (.ref al), .val (.int (3 : Int32)), .val (.int ix3), .val (.int (ln - (1 : Int32)))] []) := by
 have pre0 : Pr p e below (T0.setTop (mkF m 255 #[.val (.ref a), .val (.ref ti), .val (.ref va), .val (.ref al), .val (.int iz), .unset, .unset] [])) T0 (mkF m 255 #[.val (.ref a), .val (.ref ti), .val (.ref va), .val (.ref al), .val (.int iz), .unset, .unset] []) := fun _ kk => kk
 generalize hI : T0.setTop (mkF m 255 #[.val (.ref a), .val (.ref ti), .val (.ref va), .val (.ref al), .val (.int iz), .unset, .unset] []) = I0 at pre0 ⊢
 obtain ⟨T12, lo12, Hc12, b2, b7, k2, k7, X12, N12, e12, Zs12, KC12, E_a_c12, F_rights_c12, V_ti_c12, V_va_c12, E_al_c12, F_s_c12, F_e_c12, V_b_c12, E_x1_c12, E_x2_c12, E_x3_c12, F_x1_c12, F_x2_c12, F_x3_c12, V_b2_c12, Fq4_c12, V_b7_c12, Fq9_c12, gnc12_1, gnc12_2, szc12_0, szc12_1, nesc12_7, nesc12_8, nesc12_9, nesc12_10, nesc12_11, nesc12_12, nesc12_13, nesc12_14, nesc12_15, nesc12_16, nesc12_17, nesc12_18, nesc12_19, nesc12_20, nesc12_21, nesc12_22, nesc12_23, pre12⟩ : ∃ (T12 : State) (lo12 : List Loc) (Hc12 : Heap) (b2 : Addr) (b7 : Addr) (k2 : ClassId) (k7 : ClassId), Stand p l e R5_7_28_108 s m #[(.ref a), (.ref ti), (.ref va)] below meth c T12 lo12 6 25 ∧ Fr n0 lo12 ∧ T12.heap = Hc12 ∧ n0 ≤ Hc12.size ∧ Keep h0 Hc12 [a] ∧ Exa Z Hc12 a cF ∧ Fld Z Hc12 a cF "rights" "[D" .null ∧ Arv Z Hc12 ti ti_k .double ln lt dZ ∧ Arv Z Hc12 va va_k .double ln lv dZ ∧ Exa Z Hc12 al aL ∧ Fld Z Hc12 al aL "size" "I" (.int (3 : Int32)) ∧ Fld Z Hc12 al aL "elementData" lO (.ref b) ∧ Arv Z Hc12 b b_k (.object "java/lang/Object") (10 : Int32) [(.ref x1), (.ref x2), (.ref x3), .null, .null, .null, .null, .null, .null, .null] .null ∧ Exa Z Hc12 x1 iN ∧ Exa Z Hc12 x2 iN ∧ Exa Z Hc12 x3 iN ∧ Fld Z Hc12 x1 iN "value" "I" (.int ix1) ∧ Fld Z Hc12 x2 iN "value" "I" (.int ix2) ∧ Fld Z Hc12 x3 iN "value" "I" (.int ix3) ∧ Arv Z Hc12 b2 k2 .double (3 : Int32) [dZ, dZ, dZ] dZ ∧ Fld Z Hc12 a cF "instants" "[D" (.ref b2) ∧ Arv Z Hc12 b7 k7 .double (3 : Int32) [dZ, dZ, dZ] dZ ∧ Fld Z Hc12 a cF "lefts" "[D" (.ref b7) ∧ n0 ≤ b2 ∧ n0 ≤ b7 ∧ h0.size ≤ b2 ∧ h0.size ≤ b7 ∧ a ≠ b2 ∧ ti ≠ b2 ∧ va ≠ b2 ∧ al ≠ b2 ∧ b ≠ b2 ∧ x1 ≠ b2 ∧ x2 ≠ b2 ∧ x3 ≠ b2 ∧ a ≠ b7 ∧ ti ≠ b7 ∧ va ≠ b7 ∧ al ≠ b7 ∧ b ≠ b7 ∧ x1 ≠ b7 ∧ x2 ≠ b7 ∧ x3 ≠ b7 ∧ b2 ≠ b7 ∧ Pr p e below I0 T12 (mkF m 279 #[.val (.ref a), .val (.ref ti), .val (.ref va), .val (.ref al), .val (.int iz), .unset, .unset] []) := by
  obtain ⟨cq1, kq1, q1a, q1b, q1c⟩ := isOf hZ e0 E_al
  obtain ⟨_, _, ⟨T1, L1, k1, n1⟩, -, X1, ⟨Lc1, hQ1, l1, y1, z1⟩, st1⟩ := X0.interfaceBack hx (xi := M16) (y := M4) hown (mvT hZ (tw47 hw)) (mvT hZ (tw48 hw)) (mvT hZ (tw49 hw)) (mvT hZ (tw50 hw)) (mvT hZ (tw51 hw)) (mvT hZ (tw52 hw)) (mvT hZ (tw53 hw)) (mvT hZ (tw54 hw)) (by decide) (backOf (W := 1) (rmSz l Z a0 hw [] al ((3 : Int32)) hs n0 Z0 F_s) hZ (tw55 hw) (tw25 hw) (by decide) (by decide)) q1a q1b q1c (g := (mkF m 257 #[.val (.ref a), .val (.ref ti), .val (.ref va), .val (.ref al), .val (.int iz), .unset, .unset] [(.ref al), (.ref a)])) rfl (by rw [hml]; rfl) (Steps.refl _) (argsL := []) (rest := [(.ref a)]) (lenOf pd___I rfl) rfl (own_mr rfl) (hb hby d1_257) (fun _ _ => ⟨rfl, e0, (by decide : 4 + 0 ≤ _), (by decide : 19 + 0 ≤ _)⟩)
  dsimp only [Pt.U, Pt.locs, Pt.cells, Pt.slots] at X1 l1 y1 z1 st1 hQ1
  rw [l1, y1, z1] at X1
  obtain ⟨rfl, N1q, hh1⟩ := hQ1
  have N1 := Fr.app N0 N1q
  obtain ⟨T2, h2, k2, X2, e2, E2, A2, Ex2, st2⟩ := newPE X1 hx hZ (aty := .double) (tw0 hw) hh1 (g := (mkF m 262 #[.val (.ref a), .val (.ref ti), .val (.ref va), .val (.ref al), .val (.int iz), .unset, .unset] [(.int (3 : Int32)), (.ref a)])) rfl (hb hby d1_262) rfl (by decide) (cap := 3) (by decide) (by decide) (by decide) (by decide) (ad := "[D") (by decide +kernel)
  obtain ⟨b2, g2⟩ : ∃ z, z = hs.size := ⟨_, rfl⟩
  rw [← g2] at A2 Ex2 st2
  have ne_a_b2 := own_ne E_a.lt g2
  have ne_ti_b2 := own_ne V_ti.lt g2
  have ne_va_b2 := own_ne V_va.lt g2
  have ne_al_b2 := own_ne E_al.lt g2
  have ne_b_b2 := own_ne V_b.lt g2
  have ne_x1_b2 := own_ne E_x1.lt g2
  have ne_x2_b2 := own_ne E_x2.lt g2
  have ne_x3_b2 := own_ne E_x3.lt g2
  have gn_b2 := own_le Z0 g2
  have sz_b2 := own_le KC0.1 g2
  replace E_a := E_a.ext E2
  replace F_instants := F_instants.ext E2
  replace F_lefts := F_lefts.ext E2
  replace F_rights := F_rights.ext E2
  replace V_ti := V_ti.ext E2
  replace V_va := V_va.ext E2
  replace E_al := E_al.ext E2
  replace F_s := F_s.ext E2
  replace F_e := F_e.ext E2
  replace V_b := V_b.ext E2
  replace E_x1 := E_x1.ext E2
  replace E_x2 := E_x2.ext E2
  replace E_x3 := E_x3.ext E2
  replace F_x1 := F_x1.ext E2
  replace F_x2 := F_x2.ext E2
  replace F_x3 := F_x3.ext E2
  have Zs3 := Nat.le_trans Z0 E2.1
  have KC3 := KC0.ext E2
  have V_b2 : Arv Z h2 b2 k2 .double (3 : Int32) [dZ, dZ, dZ] dZ := (Arv.newD A2 (by decide)).pad (pad_rep [] dZ 3)
  obtain ⟨T4, h4, X4, e4, W4, st4⟩ := putF X2 hx hZ hown (host := "") (Or.inl (tw58 hw)) Via.refl e2 F_instants E_a (Or.inr ⟨(tw59 hw), rfl, hnm⟩) (tw2 hw) (ty := (.array .double)) (by decide) rfl rfl (g := (mkF m 264 #[.val (.ref a), .val (.ref ti), .val (.ref va), .val (.ref al), .val (.int iz), .unset, .unset] [(.ref b2), (.ref a)])) rfl rfl (hb hby d1_264)
  have N4 := Fr.snoc X4 N1 g_a
  have Fq4 := F_instants.same W4
  replace E_a := E_a.wr W4
  replace F_lefts := F_lefts.other W4 (Or.inr (slot_ne (Or.inr (tw61 hw)) (Or.inr (tw59 hw)) (by decide) (t := (.array .double)) (t' := (.array .double)) (by decide) (by decide)))
  replace F_rights := F_rights.other W4 (Or.inr (slot_ne (Or.inr (tw63 hw)) (Or.inr (tw59 hw)) (by decide) (t := (.array .double)) (t' := (.array .double)) (by decide) (by decide)))
  replace V_ti := V_ti.other W4 ne_ti_a
  replace V_va := V_va.other W4 ne_va_a
  replace E_al := E_al.wr W4
  replace F_s := F_s.other W4 (Or.inl ne_al_a)
  replace F_e := F_e.other W4 (Or.inl ne_al_a)
  replace V_b := V_b.other W4 ne_b_a
  replace E_x1 := E_x1.wr W4
  replace E_x2 := E_x2.wr W4
  replace E_x3 := E_x3.wr W4
  replace F_x1 := F_x1.other W4 (Or.inl ne_x1_a)
  replace F_x2 := F_x2.other W4 (Or.inl ne_x2_a)
  replace F_x3 := F_x3.other W4 (Or.inl ne_x3_a)
  replace V_b2 := V_b2.other W4 (Ne.symm ne_a_b2)
  have Zs5 := Nat.le_trans Zs3 (Keep.of_wr W4).1
  have KC5 := KC3.wr W4 (Or.inl (List.mem_of_getElem? (i := 0) rfl))
  obtain ⟨cq6, kq6, q6a, q6b, q6c⟩ := isOf hZ e4 E_al
  obtain ⟨_, _, ⟨T6, L6, k6, n6⟩, -, X6, ⟨Lc6, hQ6, l6, y6, z6⟩, st6⟩ := X4.interfaceBack hx (xi := M16) (y := M4) hown (mvT hZ (tw47 hw)) (mvT hZ (tw48 hw)) (mvT hZ (tw49 hw)) (mvT hZ (tw50 hw)) (mvT hZ (tw51 hw)) (mvT hZ (tw52 hw)) (mvT hZ (tw53 hw)) (mvT hZ (tw54 hw)) (by decide) (backOf (W := 1) (rmSz l Z a0 hw [] al ((3 : Int32)) h4 n0 Zs5 F_s) hZ (tw55 hw) (tw25 hw) (by decide) (by decide)) q6a q6b q6c (g := (mkF m 269 #[.val (.ref a), .val (.ref ti), .val (.ref va), .val (.ref al), .val (.int iz), .unset, .unset] [(.ref al), (.ref a)])) rfl (by rw [hml]; rfl) (Steps.refl _) (argsL := []) (rest := [(.ref a)]) (lenOf pd___I rfl) rfl (own_mr rfl) (hb hby d1_269) (fun _ _ => ⟨rfl, e4, (by decide : 5 + 0 ≤ _), (by decide : 22 + 0 ≤ _)⟩)
  dsimp only [Pt.U, Pt.locs, Pt.cells, Pt.slots] at X6 l6 y6 z6 st6 hQ6
  rw [l6, y6, z6] at X6
  obtain ⟨rfl, N6q, hh6⟩ := hQ6
  have N6 := Fr.app N4 N6q
  obtain ⟨T7, h7, k7, X7, e7, E7, A7, Ex7, st7⟩ := newPE X6 hx hZ (aty := .double) (tw0 hw) hh6 (g := (mkF m 274 #[.val (.ref a), .val (.ref ti), .val (.ref va), .val (.ref al), .val (.int iz), .unset, .unset] [(.int (3 : Int32)), (.ref a)])) rfl (hb hby d1_274) rfl (by decide) (cap := 3) (by decide) (by decide) (by decide) (by decide) (ad := "[D") (by decide +kernel)
  obtain ⟨b7, g7⟩ : ∃ z, z = h4.size := ⟨_, rfl⟩
  rw [← g7] at A7 Ex7 st7
  have ne_a_b7 := own_ne E_a.lt g7
  have ne_ti_b7 := own_ne V_ti.lt g7
  have ne_va_b7 := own_ne V_va.lt g7
  have ne_al_b7 := own_ne E_al.lt g7
  have ne_b_b7 := own_ne V_b.lt g7
  have ne_x1_b7 := own_ne E_x1.lt g7
  have ne_x2_b7 := own_ne E_x2.lt g7
  have ne_x3_b7 := own_ne E_x3.lt g7
  have ne_b2_b7 := own_ne V_b2.lt g7
  have gn_b7 := own_le Zs5 g7
  have sz_b7 := own_le KC5.1 g7
  replace E_a := E_a.ext E7
  replace F_lefts := F_lefts.ext E7
  replace F_rights := F_rights.ext E7
  replace V_ti := V_ti.ext E7
  replace V_va := V_va.ext E7
  replace E_al := E_al.ext E7
  replace F_s := F_s.ext E7
  replace F_e := F_e.ext E7
  replace V_b := V_b.ext E7
  replace E_x1 := E_x1.ext E7
  replace E_x2 := E_x2.ext E7
  replace E_x3 := E_x3.ext E7
  replace F_x1 := F_x1.ext E7
  replace F_x2 := F_x2.ext E7
  replace F_x3 := F_x3.ext E7
  replace V_b2 := V_b2.ext E7
  replace Fq4 := Fq4.ext E7
  have Zs8 := Nat.le_trans Zs5 E7.1
  have KC8 := KC5.ext E7
  have V_b7 : Arv Z h7 b7 k7 .double (3 : Int32) [dZ, dZ, dZ] dZ := (Arv.newD A7 (by decide)).pad (pad_rep [] dZ 3)
  obtain ⟨T9, h9, X9, e9, W9, st9⟩ := putF X7 hx hZ hown (host := "") (Or.inl (tw60 hw)) Via.refl e7 F_lefts E_a (Or.inr ⟨(tw61 hw), rfl, hnm⟩) (tw2 hw) (ty := (.array .double)) (by decide) rfl rfl (g := (mkF m 276 #[.val (.ref a), .val (.ref ti), .val (.ref va), .val (.ref al), .val (.int iz), .unset, .unset] [(.ref b7), (.ref a)])) rfl rfl (hb hby d1_276)
  have N9 := Fr.snoc X9 N6 g_a
  have Fq9 := F_lefts.same W9
  replace E_a := E_a.wr W9
  replace F_rights := F_rights.other W9 (Or.inr (slot_ne (Or.inr (tw63 hw)) (Or.inr (tw61 hw)) (by decide) (t := (.array .double)) (t' := (.array .double)) (by decide) (by decide)))
  replace V_ti := V_ti.other W9 ne_ti_a
  replace V_va := V_va.other W9 ne_va_a
  replace E_al := E_al.wr W9
  replace F_s := F_s.other W9 (Or.inl ne_al_a)
  replace F_e := F_e.other W9 (Or.inl ne_al_a)
  replace V_b := V_b.other W9 ne_b_a
  replace E_x1 := E_x1.wr W9
  replace E_x2 := E_x2.wr W9
  replace E_x3 := E_x3.wr W9
  replace F_x1 := F_x1.other W9 (Or.inl ne_x1_a)
  replace F_x2 := F_x2.other W9 (Or.inl ne_x2_a)
  replace F_x3 := F_x3.other W9 (Or.inl ne_x3_a)
  replace V_b2 := V_b2.other W9 (Ne.symm ne_a_b2)
  replace Fq4 := Fq4.other W9 (Or.inr (slot_ne (Or.inr (tw59 hw)) (Or.inr (tw61 hw)) (by decide) (t := (.array .double)) (t' := (.array .double)) (by decide) (by decide)))
  replace V_b7 := V_b7.other W9 (Ne.symm ne_a_b7)
  have Zs10 := Nat.le_trans Zs8 (Keep.of_wr W9).1
  have KC10 := KC8.wr W9 (Or.inl (List.mem_of_getElem? (i := 0) rfl))
  have pre11 : Pr p e below I0 T9 (mkF m 279 #[.val (.ref a), .val (.ref ti), .val (.ref va), .val (.ref al), .val (.int iz), .unset, .unset] []) := by
   intro tg kk
   refine pre0 tg ?_
   refine XS.aloadN X0.here hx rfl (hb hby d1_255) rfl rfl ?_
   refine XS.aloadN X0.here hx rfl (hb hby d1_256) rfl rfl ?_
   refine st1.trans ?_
   refine st2 _ ?_
   refine st4 _ ?_
   refine XS.aloadN X4.here hx rfl (hb hby d1_267) rfl rfl ?_
   refine XS.aloadN X4.here hx rfl (hb hby d1_268) rfl rfl ?_
   refine st6.trans ?_
   refine st7 _ ?_
   refine st9 _ ?_
   exact kk
  exact ⟨T9, _, h9, b2, b7, k2, k7, X9, N9, e9, Zs10, KC10, E_a, F_rights, V_ti, V_va, E_al, F_s, F_e, V_b, E_x1, E_x2, E_x3, F_x1, F_x2, F_x3, V_b2, Fq4, V_b7, Fq9, gn_b2, gn_b7, sz_b2, sz_b7, ne_a_b2, ne_ti_b2, ne_va_b2, ne_al_b2, ne_b_b2, ne_x1_b2, ne_x2_b2, ne_x3_b2, ne_a_b7, ne_ti_b7, ne_va_b7, ne_al_b7, ne_b_b7, ne_x1_b7, ne_x2_b7, ne_x3_b7, ne_b2_b7, pre11⟩
 clear pre0 X0 N0 e0 KC0 Z0 E_a F_instants F_lefts F_rights V_ti V_va E_al F_s F_e V_b E_x1 E_x2 E_x3 F_x1 F_x2 F_x3
 obtain ⟨T37, lo37, Hc37, b14, k14, X37, N37, e37, Zs37, KC37, E_a_c37, V_ti_c37, V_va_c37, E_al_c37, F_s_c37, F_e_c37, V_b_c37, E_x2_c37, E_x3_c37, F_x2_c37, F_x3_c37, Fq4_c37, Fq9_c37, V_b14_c37, Fq16_c37, Vq30_c37, Vq34_c37, gnc37_3, szc37_2, nesc37_24, nesc37_25, nesc37_26, nesc37_27, nesc37_28, nesc37_29, nesc37_30, nesc37_31, nesc37_32, nesc37_33, pre37⟩ : ∃ (T37 : State) (lo37 : List Loc) (Hc37 : Heap) (b14 : Addr) (k14 : ClassId), Stand p l e R5_7_28_108 s m #[(.ref a), (.ref ti), (.ref va)] below meth c T37 lo37 7 28 ∧ Fr n0 lo37 ∧ T37.heap = Hc37 ∧ n0 ≤ Hc37.size ∧ Keep h0 Hc37 [a] ∧ Exa Z Hc37 a cF ∧ Arv Z Hc37 ti ti_k .double ln lt dZ ∧ Arv Z Hc37 va va_k .double ln lv dZ ∧ Exa Z Hc37 al aL ∧ Fld Z Hc37 al aL "size" "I" (.int (3 : Int32)) ∧ Fld Z Hc37 al aL "elementData" lO (.ref b) ∧ Arv Z Hc37 b b_k (.object "java/lang/Object") (10 : Int32) [(.ref x1), (.ref x2), (.ref x3), .null, .null, .null, .null, .null, .null, .null] .null ∧ Exa Z Hc37 x2 iN ∧ Exa Z Hc37 x3 iN ∧ Fld Z Hc37 x2 iN "value" "I" (.int ix2) ∧ Fld Z Hc37 x3 iN "value" "I" (.int ix3) ∧ Fld Z Hc37 a cF "instants" "[D" (.ref b2) ∧ Fld Z Hc37 a cF "lefts" "[D" (.ref b7) ∧ Arv Z Hc37 b14 k14 .double (3 : Int32) [dZ, dZ, dZ] dZ ∧ Fld Z Hc37 a cF "rights" "[D" (.ref b14) ∧ Arv Z Hc37 b2 k2 .double (3 : Int32) [(dV ta1), dZ, dZ] dZ ∧ Arv Z Hc37 b7 k7 .double (3 : Int32) [dZ, dZ, dZ] dZ ∧ n0 ≤ b14 ∧ h0.size ≤ b14 ∧ a ≠ b14 ∧ ti ≠ b14 ∧ va ≠ b14 ∧ al ≠ b14 ∧ b ≠ b14 ∧ x1 ≠ b14 ∧ x2 ≠ b14 ∧ x3 ≠ b14 ∧ b2 ≠ b14 ∧ b7 ≠ b14 ∧ Pr p e below I0 T37 (mkF m 392 #[.val (.ref a), .val (.ref ti), .val (.ref va), .val (.ref al), .val (.int (0 : Int32)), .val (.int ix1), .val (.int (ix2 - (1 : Int32)))] []) := by
  obtain ⟨cq13, kq13, q13a, q13b, q13c⟩ := isOf hZ e12 E_al_c12
  obtain ⟨_, _, ⟨T13, L13, k13, n13⟩, -, X13, ⟨Lc13, hQ13, l13, y13, z13⟩, st13⟩ := X12.interfaceBack hx (xi := M16) (y := M4) hown (mvT hZ (tw47 hw)) (mvT hZ (tw48 hw)) (mvT hZ (tw49 hw)) (mvT hZ (tw50 hw)) (mvT hZ (tw51 hw)) (mvT hZ (tw52 hw)) (mvT hZ (tw53 hw)) (mvT hZ (tw54 hw)) (by decide) (backOf (W := 1) (rmSz l Z a0 hw [] al ((3 : Int32)) Hc12 n0 Zs12 F_s_c12) hZ (tw55 hw) (tw25 hw) (by decide) (by decide)) q13a q13b q13c (g := (mkF m 281 #[.val (.ref a), .val (.ref ti), .val (.ref va), .val (.ref al), .val (.int iz), .unset, .unset] [(.ref al), (.ref a)])) rfl (by rw [hml]; rfl) (Steps.refl _) (argsL := []) (rest := [(.ref a)]) (lenOf pd___I rfl) rfl (own_mr rfl) (hb hby d1_281) (fun _ _ => ⟨rfl, e12, (by decide : 6 + 0 ≤ _), (by decide : 25 + 0 ≤ _)⟩)
  dsimp only [Pt.U, Pt.locs, Pt.cells, Pt.slots] at X13 l13 y13 z13 st13 hQ13
  rw [l13, y13, z13] at X13
  obtain ⟨rfl, N13q, hh13⟩ := hQ13
  have N13 := Fr.app N12 N13q
  obtain ⟨T14, h14, k14, X14, e14, E14, A14, Ex14, st14⟩ := newPE X13 hx hZ (aty := .double) (tw0 hw) hh13 (g := (mkF m 286 #[.val (.ref a), .val (.ref ti), .val (.ref va), .val (.ref al), .val (.int iz), .unset, .unset] [(.int (3 : Int32)), (.ref a)])) rfl (hb hby d1_286) rfl (by decide) (cap := 3) (by decide) (by decide) (by decide) (by decide) (ad := "[D") (by decide +kernel)
  obtain ⟨b14, g14⟩ : ∃ z, z = Hc12.size := ⟨_, rfl⟩
  rw [← g14] at A14 Ex14 st14
  have ne_a_b14 := own_ne E_a_c12.lt g14
  have ne_ti_b14 := own_ne V_ti_c12.lt g14
  have ne_va_b14 := own_ne V_va_c12.lt g14
  have ne_al_b14 := own_ne E_al_c12.lt g14
  have ne_b_b14 := own_ne V_b_c12.lt g14
  have ne_x1_b14 := own_ne E_x1_c12.lt g14
  have ne_x2_b14 := own_ne E_x2_c12.lt g14
  have ne_x3_b14 := own_ne E_x3_c12.lt g14
  have ne_b2_b14 := own_ne V_b2_c12.lt g14
  have ne_b7_b14 := own_ne V_b7_c12.lt g14
  have gn_b14 := own_le Zs12 g14
  have sz_b14 := own_le KC12.1 g14
  replace E_a_c12 := E_a_c12.ext E14
  replace F_rights_c12 := F_rights_c12.ext E14
  replace V_ti_c12 := V_ti_c12.ext E14
  replace V_va_c12 := V_va_c12.ext E14
  replace E_al_c12 := E_al_c12.ext E14
  replace F_s_c12 := F_s_c12.ext E14
  replace F_e_c12 := F_e_c12.ext E14
  replace V_b_c12 := V_b_c12.ext E14
  replace E_x1_c12 := E_x1_c12.ext E14
  replace E_x2_c12 := E_x2_c12.ext E14
  replace E_x3_c12 := E_x3_c12.ext E14
  replace F_x1_c12 := F_x1_c12.ext E14
  replace F_x2_c12 := F_x2_c12.ext E14
  replace F_x3_c12 := F_x3_c12.ext E14
  replace V_b2_c12 := V_b2_c12.ext E14
  replace Fq4_c12 := Fq4_c12.ext E14
  replace V_b7_c12 := V_b7_c12.ext E14
  replace Fq9_c12 := Fq9_c12.ext E14
  have Zs15 := Nat.le_trans Zs12 E14.1
  have KC15 := KC12.ext E14
  have V_b14 : Arv Z h14 b14 k14 .double (3 : Int32) [dZ, dZ, dZ] dZ := (Arv.newD A14 (by decide)).pad (pad_rep [] dZ 3)
  obtain ⟨T16, h16, X16, e16, W16, st16⟩ := putF X14 hx hZ hown (host := "") (Or.inl (tw62 hw)) Via.refl e14 F_rights_c12 E_a_c12 (Or.inr ⟨(tw63 hw), rfl, hnm⟩) (tw2 hw) (ty := (.array .double)) (by decide) rfl rfl (g := (mkF m 288 #[.val (.ref a), .val (.ref ti), .val (.ref va), .val (.ref al), .val (.int iz), .unset, .unset] [(.ref b14), (.ref a)])) rfl rfl (hb hby d1_288)
  have N16 := Fr.snoc X16 N13 g_a
  have Fq16 := F_rights_c12.same W16
  replace E_a_c12 := E_a_c12.wr W16
  replace V_ti_c12 := V_ti_c12.other W16 ne_ti_a
  replace V_va_c12 := V_va_c12.other W16 ne_va_a
  replace E_al_c12 := E_al_c12.wr W16
  replace F_s_c12 := F_s_c12.other W16 (Or.inl ne_al_a)
  replace F_e_c12 := F_e_c12.other W16 (Or.inl ne_al_a)
  replace V_b_c12 := V_b_c12.other W16 ne_b_a
  replace E_x1_c12 := E_x1_c12.wr W16
  replace E_x2_c12 := E_x2_c12.wr W16
  replace E_x3_c12 := E_x3_c12.wr W16
  replace F_x1_c12 := F_x1_c12.other W16 (Or.inl ne_x1_a)
  replace F_x2_c12 := F_x2_c12.other W16 (Or.inl ne_x2_a)
  replace F_x3_c12 := F_x3_c12.other W16 (Or.inl ne_x3_a)
  replace V_b2_c12 := V_b2_c12.other W16 (Ne.symm nesc12_7)
  replace Fq4_c12 := Fq4_c12.other W16 (Or.inr (slot_ne (Or.inr (tw59 hw)) (Or.inr (tw63 hw)) (by decide) (t := (.array .double)) (t' := (.array .double)) (by decide) (by decide)))
  replace V_b7_c12 := V_b7_c12.other W16 (Ne.symm nesc12_15)
  replace Fq9_c12 := Fq9_c12.other W16 (Or.inr (slot_ne (Or.inr (tw61 hw)) (Or.inr (tw63 hw)) (by decide) (t := (.array .double)) (t' := (.array .double)) (by decide) (by decide)))
  replace V_b14 := V_b14.other W16 (Ne.symm ne_a_b14)
  have Zs17 := Nat.le_trans Zs15 (Keep.of_wr W16).1
  have KC17 := KC15.wr W16 (Or.inl (List.mem_of_getElem? (i := 0) rfl))
  obtain ⟨cq18, kq18, q18a, q18b, q18c⟩ := isOf hZ e16 E_al_c12
  obtain ⟨_, _, ⟨T18, L18, k18, n18⟩, -, X18, ⟨Lc18, hQ18, l18, y18, z18⟩, st18⟩ := X16.interfaceBack hx (xi := M16) (y := M4) hown (mvT hZ (tw47 hw)) (mvT hZ (tw48 hw)) (mvT hZ (tw49 hw)) (mvT hZ (tw50 hw)) (mvT hZ (tw51 hw)) (mvT hZ (tw52 hw)) (mvT hZ (tw53 hw)) (mvT hZ (tw54 hw)) (by decide) (backOf (W := 1) (rmSz l Z a0 hw [] al ((3 : Int32)) h16 n0 Zs17 F_s_c12) hZ (tw55 hw) (tw25 hw) (by decide) (by decide)) q18a q18b q18c (g := (mkF m 297 #[.val (.ref a), .val (.ref ti), .val (.ref va), .val (.ref al), .val (.int (0 : Int32)), .unset, .unset] [(.ref al), (.int (0 : Int32))])) rfl (by rw [hml]; rfl) (Steps.refl _) (argsL := []) (rest := [(.int (0 : Int32))]) (lenOf pd___I rfl) rfl (own_mr rfl) (hb hby d1_297) (fun _ _ => ⟨rfl, e16, (by decide : 7 + 0 ≤ _), (by decide : 28 + 0 ≤ _)⟩)
  dsimp only [Pt.U, Pt.locs, Pt.cells, Pt.slots] at X18 l18 y18 z18 st18 hQ18
  rw [l18, y18, z18] at X18
  obtain ⟨rfl, N18q, hh18⟩ := hQ18
  have N18 := Fr.app N16 N18q
  obtain ⟨cq19, kq19, q19a, q19b, q19c⟩ := isOf hZ hh18 E_al_c12
  obtain ⟨_, _, ⟨T19, L19, k19, n19⟩, -, X19, ⟨Lc19, hQ19, l19, y19, z19⟩, st19⟩ := X18.interfaceBack hx (xi := M17) (y := M15) hown (mvT hZ (tw120 hw)) (mvT hZ (tw121 hw)) (mvT hZ (tw122 hw)) (mvT hZ (tw123 hw)) (mvT hZ (tw124 hw)) (mvT hZ (tw125 hw)) (mvT hZ (tw126 hw)) (mvT hZ (tw54 hw)) (by decide) (backOf (W := 0) (rmGt l Z a0 hw [] al b b_k ((0 : Int32)) ([(.ref x1), (.ref x2), (.ref x3), .null, .null, .null, .null, .null, .null, .null]) x1 ((3 : Int32)) h16 n0 Zs17 E_al_c12 F_s_c12 F_e_c12 V_b_c12 (by decide) (by decide) rfl) hZ (tw127 hw) (tw25 hw) (by decide) (by decide)) q19a q19b q19c (g := (mkF m 308 #[.val (.ref a), .val (.ref ti), .val (.ref va), .val (.ref al), .val (.int (0 : Int32)), .unset, .unset] [(.int (0 : Int32)), (.ref al)])) rfl (by rw [hml]; rfl) (Steps.refl _) (argsL := [(.int (0 : Int32))]) (rest := []) (lenOf pd__I_Ljava_lang_Object_ rfl) rfl (own_mr rfl) (hb hby d1_308) (fun _ _ => ⟨rfl, hh18, (by decide : 7 + 0 ≤ _), (by decide : 28 + 0 ≤ _)⟩)
  dsimp only [Pt.U, Pt.locs, Pt.cells, Pt.slots] at X19 l19 y19 z19 st19 hQ19
  rw [l19, y19, z19] at X19
  obtain ⟨rfl, N19q, hh19⟩ := hQ19
  have N19 := Fr.app N18 N19q
  obtain ⟨T20, X20, e20, st20⟩ := castY X19 hx hZ hown (tw141 hw) hh19 (Ins.self E_x1_c12) (g := (mkF m 313 #[.val (.ref a), .val (.ref ti), .val (.ref va), .val (.ref al), .val (.int (0 : Int32)), .unset, .unset] [(.ref x1)])) rfl rfl (hb hby d1_313)
  obtain ⟨cq21, kq21, q21a, q21b, q21c⟩ := isOf hZ e20 E_x1_c12
  obtain ⟨_, _, ⟨T21, L21, k21, n21⟩, -, X21, ⟨Lc21, hQ21, l21, y21, z21⟩, st21⟩ := X20.virtualBack hx (y := M11) (z := M11) hown (mvT hZ (tw143 hw)) (mvT hZ (tw144 hw)) (notFace_of_selects (args := #[]) (mvT hZ (tw146 hw))) (mvT hZ (tw146 hw)) (mvT hZ (tw145 hw)) (by decide) (backOf (W := 0) (rmIV l Z a0 hw [] x1 ix1 h16 n0 Zs17 F_x1_c12) hZ (tw147 hw) (tw84 hw) (by decide) (by decide)) q21a q21c (g := (mkF m 316 #[.val (.ref a), .val (.ref ti), .val (.ref va), .val (.ref al), .val (.int (0 : Int32)), .unset, .unset] [(.ref x1)])) rfl (by rw [hml]; rfl) (Steps.refl _) (argsL := []) (rest := []) (lenOf pd___I rfl) rfl (own_mr rfl) (hb hby d1_316) (fun _ _ => ⟨rfl, e20, (by decide : 7 + 0 ≤ _), (by decide : 28 + 0 ≤ _)⟩)
  dsimp only [Pt.U, Pt.locs, Pt.cells, Pt.slots] at X21 l21 y21 z21 st21 hQ21
  rw [l21, y21, z21] at X21
  obtain ⟨rfl, N21q, hh21⟩ := hQ21
  have N21 := Fr.app N19 N21q
  obtain ⟨cq22, kq22, q22a, q22b, q22c⟩ := isOf hZ hh21 E_al_c12
  obtain ⟨_, _, ⟨T22, L22, k22, n22⟩, -, X22, ⟨Lc22, hQ22, l22, y22, z22⟩, st22⟩ := X21.interfaceBack hx (xi := M16) (y := M4) hown (mvT hZ (tw47 hw)) (mvT hZ (tw48 hw)) (mvT hZ (tw49 hw)) (mvT hZ (tw50 hw)) (mvT hZ (tw51 hw)) (mvT hZ (tw52 hw)) (mvT hZ (tw53 hw)) (mvT hZ (tw54 hw)) (by decide) (backOf (W := 1) (rmSz l Z a0 hw [] al ((3 : Int32)) h16 n0 Zs17 F_s_c12) hZ (tw55 hw) (tw25 hw) (by decide) (by decide)) q22a q22b q22c (g := (mkF m 326 #[.val (.ref a), .val (.ref ti), .val (.ref va), .val (.ref al), .val (.int (0 : Int32)), .val (.int ix1), .unset] [(.ref al), (.int (1 : Int32))])) rfl (by rw [hml]; rfl) (Steps.refl _) (argsL := []) (rest := [(.int (1 : Int32))]) (lenOf pd___I rfl) rfl (own_mr rfl) (hb hby d1_326) (fun _ _ => ⟨rfl, hh21, (by decide : 7 + 0 ≤ _), (by decide : 28 + 0 ≤ _)⟩)
  dsimp only [Pt.U, Pt.locs, Pt.cells, Pt.slots] at X22 l22 y22 z22 st22 hQ22
  rw [l22, y22, z22] at X22
  obtain ⟨rfl, N22q, hh22⟩ := hQ22
  have N22 := Fr.app N21 N22q
  obtain ⟨cq23, kq23, q23a, q23b, q23c⟩ := isOf hZ hh22 E_al_c12
  obtain ⟨_, _, ⟨T23, L23, k23, n23⟩, -, X23, ⟨Lc23, hQ23, l23, y23, z23⟩, st23⟩ := X22.interfaceBack hx (xi := M17) (y := M15) hown (mvT hZ (tw120 hw)) (mvT hZ (tw121 hw)) (mvT hZ (tw122 hw)) (mvT hZ (tw123 hw)) (mvT hZ (tw124 hw)) (mvT hZ (tw125 hw)) (mvT hZ (tw126 hw)) (mvT hZ (tw54 hw)) (by decide) (backOf (W := 0) (rmGt l Z a0 hw [] al b b_k ((1 : Int32)) ([(.ref x1), (.ref x2), (.ref x3), .null, .null, .null, .null, .null, .null, .null]) x2 ((3 : Int32)) h16 n0 Zs17 E_al_c12 F_s_c12 F_e_c12 V_b_c12 (by decide) (by decide) rfl) hZ (tw127 hw) (tw25 hw) (by decide) (by decide)) q23a q23b q23c (g := (mkF m 339 #[.val (.ref a), .val (.ref ti), .val (.ref va), .val (.ref al), .val (.int (0 : Int32)), .val (.int ix1), .unset] [(.int (1 : Int32)), (.ref al)])) rfl (by rw [hml]; rfl) (Steps.refl _) (argsL := [(.int (1 : Int32))]) (rest := []) (lenOf pd__I_Ljava_lang_Object_ rfl) rfl (own_mr rfl) (hb hby d1_339) (fun _ _ => ⟨rfl, hh22, (by decide : 7 + 0 ≤ _), (by decide : 28 + 0 ≤ _)⟩)
  dsimp only [Pt.U, Pt.locs, Pt.cells, Pt.slots] at X23 l23 y23 z23 st23 hQ23
  rw [l23, y23, z23] at X23
  obtain ⟨rfl, N23q, hh23⟩ := hQ23
  have N23 := Fr.app N22 N23q
  obtain ⟨T24, X24, e24, st24⟩ := castY X23 hx hZ hown (tw141 hw) hh23 (Ins.self E_x2_c12) (g := (mkF m 344 #[.val (.ref a), .val (.ref ti), .val (.ref va), .val (.ref al), .val (.int (0 : Int32)), .val (.int ix1), .unset] [(.ref x2)])) rfl rfl (hb hby d1_344)
  obtain ⟨cq25, kq25, q25a, q25b, q25c⟩ := isOf hZ e24 E_x2_c12
  obtain ⟨_, _, ⟨T25, L25, k25, n25⟩, -, X25, ⟨Lc25, hQ25, l25, y25, z25⟩, st25⟩ := X24.virtualBack hx (y := M11) (z := M11) hown (mvT hZ (tw143 hw)) (mvT hZ (tw144 hw)) (notFace_of_selects (args := #[]) (mvT hZ (tw146 hw))) (mvT hZ (tw146 hw)) (mvT hZ (tw145 hw)) (by decide) (backOf (W := 0) (rmIV l Z a0 hw [] x2 ix2 h16 n0 Zs17 F_x2_c12) hZ (tw147 hw) (tw84 hw) (by decide) (by decide)) q25a q25c (g := (mkF m 347 #[.val (.ref a), .val (.ref ti), .val (.ref va), .val (.ref al), .val (.int (0 : Int32)), .val (.int ix1), .unset] [(.ref x2)])) rfl (by rw [hml]; rfl) (Steps.refl _) (argsL := []) (rest := []) (lenOf pd___I rfl) rfl (own_mr rfl) (hb hby d1_347) (fun _ _ => ⟨rfl, e24, (by decide : 7 + 0 ≤ _), (by decide : 28 + 0 ≤ _)⟩)
  dsimp only [Pt.U, Pt.locs, Pt.cells, Pt.slots] at X25 l25 y25 z25 st25 hQ25
  rw [l25, y25, z25] at X25
  obtain ⟨rfl, N25q, hh25⟩ := hQ25
  have N25 := Fr.app N23 N25q
  obtain ⟨T26, X26, e26, st26⟩ := getF X25 hx hZ hown (host := "") (Or.inl (tw58 hw)) Via.refl hh25 Fq4_c12 (g := (mkF m 362 #[.val (.ref a), .val (.ref ti), .val (.ref va), .val (.ref al), .val (.int (0 : Int32)), .val (.int ix1), .val (.int (ix2 - (1 : Int32)))] [(.ref a)])) rfl rfl (hb hby d1_362)
  obtain ⟨cl27, Ar27, aq27, aS27, aN27, aH27, aG27⟩ := id V_ti_c12
  have hin28 : ¬ (ix1 < 0 ∨ cl27.slots.size ≤ (ix1).toNatClampNeg) := inb_of aS27 hi1
  have hat28 : cl27.slots[(ix1).toNatClampNeg]? = some (dV ta1) := Has.at aH27 hin28 ht1
  obtain ⟨cl29, Ar29, aq29, aS29, aN29, aH29, aG29⟩ := id V_b2_c12
  have hin30 : ¬ ((0 : Int32) < 0 ∨ cl29.slots.size ≤ ((0 : Int32)).toNatClampNeg) := inb_of aS29 ⟨by decide, by decide⟩
  obtain ⟨T30, h30, X30, e30, W30, st30⟩ := stD X26 hx hZ e26 Ar29 (j := (0 : Int32)) hin30 (g := (mkF m 371 #[.val (.ref a), .val (.ref ti), .val (.ref va), .val (.ref al), .val (.int (0 : Int32)), .val (.int ix1), .val (.int (ix2 - (1 : Int32)))] [(dV ta1), (.int (0 : Int32)), (.ref b2)])) rfl rfl (hb hby d1_371)
  have N30 := Fr.snoc X30 N25 gnc12_1
  have Vq30 : Arv Z h30 b2 k2 .double (3 : Int32) [(dV ta1), dZ, dZ] dZ := Arv.set Ar29 aq29 aS29 aN29 aH29 aG29 rfl W30 0 rfl (Nat.le_of_ble_eq_true rfl)
  replace E_a_c12 := E_a_c12.wr W30
  replace V_ti_c12 := V_ti_c12.other W30 nesc12_8
  replace V_va_c12 := V_va_c12.other W30 nesc12_9
  replace E_al_c12 := E_al_c12.wr W30
  replace F_s_c12 := F_s_c12.other W30 (Or.inl nesc12_10)
  replace F_e_c12 := F_e_c12.other W30 (Or.inl nesc12_10)
  replace V_b_c12 := V_b_c12.other W30 nesc12_11
  replace E_x2_c12 := E_x2_c12.wr W30
  replace E_x3_c12 := E_x3_c12.wr W30
  replace F_x2_c12 := F_x2_c12.other W30 (Or.inl nesc12_13)
  replace F_x3_c12 := F_x3_c12.other W30 (Or.inl nesc12_14)
  replace Fq4_c12 := Fq4_c12.other W30 (Or.inl nesc12_7)
  replace V_b7_c12 := V_b7_c12.other W30 (Ne.symm nesc12_23)
  replace Fq9_c12 := Fq9_c12.other W30 (Or.inl nesc12_7)
  replace V_b14 := V_b14.other W30 (Ne.symm ne_b2_b14)
  replace Fq16 := Fq16.other W30 (Or.inl nesc12_7)
  have Zs31 := Nat.le_trans Zs17 (Keep.of_wr W30).1
  have KC31 := KC17.wr W30 (Or.inr szc12_0)
  obtain ⟨T32, X32, e32, st32⟩ := getF X30 hx hZ hown (host := "") (Or.inl (tw60 hw)) Via.refl e30 Fq9_c12 (g := (mkF m 373 #[.val (.ref a), .val (.ref ti), .val (.ref va), .val (.ref al), .val (.int (0 : Int32)), .val (.int ix1), .val (.int (ix2 - (1 : Int32)))] [(.ref a)])) rfl rfl (hb hby d1_373)
  obtain ⟨cl33, Ar33, aq33, aS33, aN33, aH33, aG33⟩ := id V_b7_c12
  have hin34 : ¬ ((0 : Int32) < 0 ∨ cl33.slots.size ≤ ((0 : Int32)).toNatClampNeg) := inb_of aS33 ⟨by decide, by decide⟩
  obtain ⟨T34, h34, X34, e34, W34, st34⟩ := stD X32 hx hZ e32 Ar33 (j := (0 : Int32)) hin34 (g := (mkF m 391 #[.val (.ref a), .val (.ref ti), .val (.ref va), .val (.ref al), .val (.int (0 : Int32)), .val (.int ix1), .val (.int (ix2 - (1 : Int32)))] [dZ, (.int (0 : Int32)), (.ref b7)])) rfl rfl (hb hby d1_391)
  have N34 := Fr.snoc X34 N30 gnc12_2
  have Vq34 : Arv Z h34 b7 k7 .double (3 : Int32) [dZ, dZ, dZ] dZ := Arv.set Ar33 aq33 aS33 aN33 aH33 aG33 rfl W34 0 rfl (Nat.le_of_ble_eq_true rfl)
  replace E_a_c12 := E_a_c12.wr W34
  replace V_ti_c12 := V_ti_c12.other W34 nesc12_16
  replace V_va_c12 := V_va_c12.other W34 nesc12_17
  replace E_al_c12 := E_al_c12.wr W34
  replace F_s_c12 := F_s_c12.other W34 (Or.inl nesc12_18)
  replace F_e_c12 := F_e_c12.other W34 (Or.inl nesc12_18)
  replace V_b_c12 := V_b_c12.other W34 nesc12_19
  replace E_x2_c12 := E_x2_c12.wr W34
  replace E_x3_c12 := E_x3_c12.wr W34
  replace F_x2_c12 := F_x2_c12.other W34 (Or.inl nesc12_21)
  replace F_x3_c12 := F_x3_c12.other W34 (Or.inl nesc12_22)
  replace Fq4_c12 := Fq4_c12.other W34 (Or.inl nesc12_15)
  replace Fq9_c12 := Fq9_c12.other W34 (Or.inl nesc12_15)
  replace V_b14 := V_b14.other W34 (Ne.symm ne_b7_b14)
  replace Fq16 := Fq16.other W34 (Or.inl nesc12_15)
  replace Vq30 := Vq30.other W34 nesc12_23
  have Zs35 := Nat.le_trans Zs31 (Keep.of_wr W34).1
  have KC35 := KC31.wr W34 (Or.inr szc12_1)
  have pre36 : Pr p e below I0 T34 (mkF m 392 #[.val (.ref a), .val (.ref ti), .val (.ref va), .val (.ref al), .val (.int (0 : Int32)), .val (.int ix1), .val (.int (ix2 - (1 : Int32)))] []) := by
   intro tg kk
   refine pre12 tg ?_
   refine XS.aloadN X12.here hx rfl (hb hby d1_279) rfl rfl ?_
   refine XS.aloadN X12.here hx rfl (hb hby d1_280) rfl rfl ?_
   refine st13.trans ?_
   refine st14 _ ?_
   refine st16 _ ?_
   refine XS.iconst X16.here hx rfl (hb hby d1_291) ?_
   refine XS.istore X16.here hx rfl (hb hby d1_292) rfl (l' := #[.val (.ref a), .val (.ref ti), .val (.ref va), .val (.ref al), .val (.int (0 : Int32)), .unset, .unset]) rfl ?_
   refine XS.iload X16.here hx rfl (hb hby d1_294) rfl ?_
   refine XS.aloadN X16.here hx rfl (hb hby d1_296) rfl rfl ?_
   refine st18.trans ?_
   refine XS.icmpNo X18.here hx rfl (hb hby d1_302) rfl (XT.ii_ge_f (by decide)) ?_
   refine XS.aloadN X18.here hx rfl (hb hby d1_305) rfl rfl ?_
   refine XS.iload X18.here hx rfl (hb hby d1_306) rfl ?_
   refine st19.trans ?_
   refine st20 _ ?_
   refine st21.trans ?_
   refine XS.istore X21.here hx rfl (hb hby d1_319) rfl (l' := #[.val (.ref a), .val (.ref ti), .val (.ref va), .val (.ref al), .val (.int (0 : Int32)), .val (.int ix1), .unset]) rfl ?_
   refine XS.iload X21.here hx rfl (hb hby d1_321) rfl ?_
   refine XS.iconst X21.here hx rfl (hb hby d1_323) ?_
   refine XS.iadd X21.here hx rfl (hb hby d1_324) rfl ?_
   refine XS.aloadN X21.here hx rfl (hb hby d1_325) rfl rfl ?_
   refine st22.trans ?_
   refine XS.icmpNo X22.here hx rfl (hb hby d1_331) rfl (XT.ii_ge_f (by decide)) ?_
   refine XS.aloadN X22.here hx rfl (hb hby d1_334) rfl rfl ?_
   refine XS.iload X22.here hx rfl (hb hby d1_335) rfl ?_
   refine XS.iconst X22.here hx rfl (hb hby d1_337) ?_
   refine XS.iadd X22.here hx rfl (hb hby d1_338) rfl ?_
   refine st23.trans ?_
   refine st24 _ ?_
   refine st25.trans ?_
   refine XS.iconst X25.here hx rfl (hb hby d1_350) ?_
   refine XS.isub X25.here hx rfl (hb hby d1_351) rfl ?_
   refine XS.goto X25.here hx rfl (pc0 := 352) (pc' := 359) rfl (hb hby d1_352) (by decide) (by decide) ?_
   refine XS.istore X25.here hx rfl (hb hby d1_359) rfl (l' := #[.val (.ref a), .val (.ref ti), .val (.ref va), .val (.ref al), .val (.int (0 : Int32)), .val (.int ix1), .val (.int (ix2 - (1 : Int32)))]) rfl ?_
   refine XS.aloadN X25.here hx rfl (hb hby d1_361) rfl rfl ?_
   refine st26 _ ?_
   refine XS.iload X26.here hx rfl (hb hby d1_365) rfl ?_
   refine XS.aloadN X26.here hx rfl (hb hby d1_367) rfl rfl ?_
   refine XS.iload X26.here hx rfl (hb hby d1_368) rfl ?_
   refine X26.daload hx (j := ix1) (v := (dV ta1)) (by rw [e26]; exact Ar27.1) (State.isArrayOf_alike hZ.alike Ar27.2.1) Ar27.2.2 hin28 hat28 (g := (mkF m 370 #[.val (.ref a), .val (.ref ti), .val (.ref va), .val (.ref al), .val (.int (0 : Int32)), .val (.int ix1), .val (.int (ix2 - (1 : Int32)))] [(.int ix1), (.ref ti), (.int (0 : Int32)), (.ref b2)])) rfl rfl (hb hby d1_370) _ ?_
   refine st30 _ ?_
   refine XS.aloadN X30.here hx rfl (hb hby d1_372) rfl rfl ?_
   refine st32 _ ?_
   refine XS.iload X32.here hx rfl (hb hby d1_376) rfl ?_
   refine XS.iload X32.here hx rfl (hb hby d1_378) rfl ?_
   refine XS.ifNo X32.here hx rfl (hb hby d1_380) rfl (XT.i0_ne_f (by decide)) ?_
   refine XS.dconst0 X32.here hx rfl (v := FP.l2d (0 : Int64)) (hb hby d1_383) own_dc0 ?_
   refine XS.goto X32.here hx rfl (pc0 := 384) (pc' := 391) rfl (hb hby d1_384) (by decide) (by decide) ?_
   refine st34 _ ?_
   exact kk
  exact ⟨T34, _, h34, b14, k14, X34, N34, e34, Zs35, KC35, E_a_c12, V_ti_c12, V_va_c12, E_al_c12, F_s_c12, F_e_c12, V_b_c12, E_x2_c12, E_x3_c12, F_x2_c12, F_x3_c12, Fq4_c12, Fq9_c12, V_b14, Fq16, Vq30, Vq34, gn_b14, sz_b14, ne_a_b14, ne_ti_b14, ne_va_b14, ne_al_b14, ne_b_b14, ne_x1_b14, ne_x2_b14, ne_x3_b14, ne_b2_b14, ne_b7_b14, pre36⟩
 clear pre12 X12 N12 e12 KC12 Zs12 E_a_c12 F_rights_c12 V_ti_c12 V_va_c12 E_al_c12 F_s_c12 F_e_c12 V_b_c12 E_x1_c12 E_x2_c12 E_x3_c12 F_x1_c12 F_x2_c12 F_x3_c12 V_b2_c12 Fq4_c12 V_b7_c12 Fq9_c12
 obtain ⟨T71, lo71, Hc71, X71, N71, e71, Zs71, KC71, E_a_c71, V_ti_c71, V_va_c71, E_al_c71, F_s_c71, F_e_c71, V_b_c71, E_x3_c71, F_x3_c71, Fq4_c71, Fq9_c71, Fq16_c71, Vq56_c71, Vq62_c71, Vq68_c71, pre71⟩ : ∃ (T71 : State) (lo71 : List Loc) (Hc71 : Heap), Stand p l e R5_7_28_108 s m #[(.ref a), (.ref ti), (.ref va)] below meth c T71 lo71 7 28 ∧ Fr n0 lo71 ∧ T71.heap = Hc71 ∧ n0 ≤ Hc71.size ∧ Keep h0 Hc71 [a] ∧ Exa Z Hc71 a cF ∧ Arv Z Hc71 ti ti_k .double ln lt dZ ∧ Arv Z Hc71 va va_k .double ln lv dZ ∧ Exa Z Hc71 al aL ∧ Fld Z Hc71 al aL "size" "I" (.int (3 : Int32)) ∧ Fld Z Hc71 al aL "elementData" lO (.ref b) ∧ Arv Z Hc71 b b_k (.object "java/lang/Object") (10 : Int32) [(.ref x1), (.ref x2), (.ref x3), .null, .null, .null, .null, .null, .null, .null] .null ∧ Exa Z Hc71 x3 iN ∧ Fld Z Hc71 x3 iN "value" "I" (.int ix3) ∧ Fld Z Hc71 a cF "instants" "[D" (.ref b2) ∧ Fld Z Hc71 a cF "lefts" "[D" (.ref b7) ∧ Fld Z Hc71 a cF "rights" "[D" (.ref b14) ∧ Arv Z Hc71 b2 k2 .double (3 : Int32) [(dV ta1), (dV ta2), dZ] dZ ∧ Arv Z Hc71 b7 k7 .double (3 : Int32) [dZ, (dV tb2), dZ] dZ ∧ Arv Z Hc71 b14 k14 .double (3 : Int32) [(dV tc1), (dV tc2), dZ] dZ ∧ Pr p e below I0 T71 (mkF m 403 #[.val (.ref a), .val (.ref ti), .val (.ref va), .val (.ref al), .val (.int (1 : Int32)), .val (.int ix2), .val (.int (ix3 - (1 : Int32)))] []) := by
  obtain ⟨T38, X38, e38, st38⟩ := getF X37 hx hZ hown (host := "") (Or.inl (tw62 hw)) Via.refl e37 Fq16_c37 (g := (mkF m 393 #[.val (.ref a), .val (.ref ti), .val (.ref va), .val (.ref al), .val (.int (0 : Int32)), .val (.int ix1), .val (.int (ix2 - (1 : Int32)))] [(.ref a)])) rfl rfl (hb hby d1_393)
  obtain ⟨cl39, Ar39, aq39, aS39, aN39, aH39, aG39⟩ := id V_va_c37
  have hin40 : ¬ ((ix2 - (1 : Int32)) < 0 ∨ cl39.slots.size ≤ ((ix2 - (1 : Int32))).toNatClampNeg) := inb_of aS39 he1
  have hat40 : cl39.slots[((ix2 - (1 : Int32))).toNatClampNeg]? = some (dV tc1) := Has.at aH39 hin40 hc1
  obtain ⟨cl41, Ar41, aq41, aS41, aN41, aH41, aG41⟩ := id V_b14_c37
  have hin42 : ¬ ((0 : Int32) < 0 ∨ cl41.slots.size ≤ ((0 : Int32)).toNatClampNeg) := inb_of aS41 ⟨by decide, by decide⟩
  obtain ⟨T42, h42, X42, e42, W42, st42⟩ := stD X38 hx hZ e38 Ar41 (j := (0 : Int32)) hin42 (g := (mkF m 402 #[.val (.ref a), .val (.ref ti), .val (.ref va), .val (.ref al), .val (.int (0 : Int32)), .val (.int ix1), .val (.int (ix2 - (1 : Int32)))] [(dV tc1), (.int (0 : Int32)), (.ref b14)])) rfl rfl (hb hby d1_402)
  have N42 := Fr.snoc X42 N37 gnc37_3
  have Vq42 : Arv Z h42 b14 k14 .double (3 : Int32) [(dV tc1), dZ, dZ] dZ := Arv.set Ar41 aq41 aS41 aN41 aH41 aG41 rfl W42 0 rfl (Nat.le_of_ble_eq_true rfl)
  replace E_a_c37 := E_a_c37.wr W42
  replace V_ti_c37 := V_ti_c37.other W42 nesc37_25
  replace V_va_c37 := V_va_c37.other W42 nesc37_26
  replace E_al_c37 := E_al_c37.wr W42
  replace F_s_c37 := F_s_c37.other W42 (Or.inl nesc37_27)
  replace F_e_c37 := F_e_c37.other W42 (Or.inl nesc37_27)
  replace V_b_c37 := V_b_c37.other W42 nesc37_28
  replace E_x2_c37 := E_x2_c37.wr W42
  replace E_x3_c37 := E_x3_c37.wr W42
  replace F_x2_c37 := F_x2_c37.other W42 (Or.inl nesc37_30)
  replace F_x3_c37 := F_x3_c37.other W42 (Or.inl nesc37_31)
  replace Fq4_c37 := Fq4_c37.other W42 (Or.inl nesc37_24)
  replace Fq9_c37 := Fq9_c37.other W42 (Or.inl nesc37_24)
  replace Fq16_c37 := Fq16_c37.other W42 (Or.inl nesc37_24)
  replace Vq30_c37 := Vq30_c37.other W42 nesc37_32
  replace Vq34_c37 := Vq34_c37.other W42 nesc37_33
  have Zs43 := Nat.le_trans Zs37 (Keep.of_wr W42).1
  have KC43 := KC37.wr W42 (Or.inr szc37_2)
  obtain ⟨cq44, kq44, q44a, q44b, q44c⟩ := isOf hZ e42 E_al_c37
  obtain ⟨_, _, ⟨T44, L44, k44, n44⟩, -, X44, ⟨Lc44, hQ44, l44, y44, z44⟩, st44⟩ := X42.interfaceBack hx (xi := M16) (y := M4) hown (mvT hZ (tw47 hw)) (mvT hZ (tw48 hw)) (mvT hZ (tw49 hw)) (mvT hZ (tw50 hw)) (mvT hZ (tw51 hw)) (mvT hZ (tw52 hw)) (mvT hZ (tw53 hw)) (mvT hZ (tw54 hw)) (by decide) (backOf (W := 1) (rmSz l Z a0 hw [] al ((3 : Int32)) h42 n0 Zs43 F_s_c37) hZ (tw55 hw) (tw25 hw) (by decide) (by decide)) q44a q44b q44c (g := (mkF m 297 #[.val (.ref a), .val (.ref ti), .val (.ref va), .val (.ref al), .val (.int (1 : Int32)), .val (.int ix1), .val (.int (ix2 - (1 : Int32)))] [(.ref al), (.int (1 : Int32))])) rfl (by rw [hml]; rfl) (Steps.refl _) (argsL := []) (rest := [(.int (1 : Int32))]) (lenOf pd___I rfl) rfl (own_mr rfl) (hb hby d1_297) (fun _ _ => ⟨rfl, e42, (by decide : 7 + 0 ≤ _), (by decide : 28 + 0 ≤ _)⟩)
  dsimp only [Pt.U, Pt.locs, Pt.cells, Pt.slots] at X44 l44 y44 z44 st44 hQ44
  rw [l44, y44, z44] at X44
  obtain ⟨rfl, N44q, hh44⟩ := hQ44
  have N44 := Fr.app N42 N44q
  obtain ⟨cq45, kq45, q45a, q45b, q45c⟩ := isOf hZ hh44 E_al_c37
  obtain ⟨_, _, ⟨T45, L45, k45, n45⟩, -, X45, ⟨Lc45, hQ45, l45, y45, z45⟩, st45⟩ := X44.interfaceBack hx (xi := M17) (y := M15) hown (mvT hZ (tw120 hw)) (mvT hZ (tw121 hw)) (mvT hZ (tw122 hw)) (mvT hZ (tw123 hw)) (mvT hZ (tw124 hw)) (mvT hZ (tw125 hw)) (mvT hZ (tw126 hw)) (mvT hZ (tw54 hw)) (by decide) (backOf (W := 0) (rmGt l Z a0 hw [] al b b_k ((1 : Int32)) ([(.ref x1), (.ref x2), (.ref x3), .null, .null, .null, .null, .null, .null, .null]) x2 ((3 : Int32)) h42 n0 Zs43 E_al_c37 F_s_c37 F_e_c37 V_b_c37 (by decide) (by decide) rfl) hZ (tw127 hw) (tw25 hw) (by decide) (by decide)) q45a q45b q45c (g := (mkF m 308 #[.val (.ref a), .val (.ref ti), .val (.ref va), .val (.ref al), .val (.int (1 : Int32)), .val (.int ix1), .val (.int (ix2 - (1 : Int32)))] [(.int (1 : Int32)), (.ref al)])) rfl (by rw [hml]; rfl) (Steps.refl _) (argsL := [(.int (1 : Int32))]) (rest := []) (lenOf pd__I_Ljava_lang_Object_ rfl) rfl (own_mr rfl) (hb hby d1_308) (fun _ _ => ⟨rfl, hh44, (by decide : 7 + 0 ≤ _), (by decide : 28 + 0 ≤ _)⟩)
  dsimp only [Pt.U, Pt.locs, Pt.cells, Pt.slots] at X45 l45 y45 z45 st45 hQ45
  rw [l45, y45, z45] at X45
  obtain ⟨rfl, N45q, hh45⟩ := hQ45
  have N45 := Fr.app N44 N45q
  obtain ⟨T46, X46, e46, st46⟩ := castY X45 hx hZ hown (tw141 hw) hh45 (Ins.self E_x2_c37) (g := (mkF m 313 #[.val (.ref a), .val (.ref ti), .val (.ref va), .val (.ref al), .val (.int (1 : Int32)), .val (.int ix1), .val (.int (ix2 - (1 : Int32)))] [(.ref x2)])) rfl rfl (hb hby d1_313)
  obtain ⟨cq47, kq47, q47a, q47b, q47c⟩ := isOf hZ e46 E_x2_c37
  obtain ⟨_, _, ⟨T47, L47, k47, n47⟩, -, X47, ⟨Lc47, hQ47, l47, y47, z47⟩, st47⟩ := X46.virtualBack hx (y := M11) (z := M11) hown (mvT hZ (tw143 hw)) (mvT hZ (tw144 hw)) (notFace_of_selects (args := #[]) (mvT hZ (tw146 hw))) (mvT hZ (tw146 hw)) (mvT hZ (tw145 hw)) (by decide) (backOf (W := 0) (rmIV l Z a0 hw [] x2 ix2 h42 n0 Zs43 F_x2_c37) hZ (tw147 hw) (tw84 hw) (by decide) (by decide)) q47a q47c (g := (mkF m 316 #[.val (.ref a), .val (.ref ti), .val (.ref va), .val (.ref al), .val (.int (1 : Int32)), .val (.int ix1), .val (.int (ix2 - (1 : Int32)))] [(.ref x2)])) rfl (by rw [hml]; rfl) (Steps.refl _) (argsL := []) (rest := []) (lenOf pd___I rfl) rfl (own_mr rfl) (hb hby d1_316) (fun _ _ => ⟨rfl, e46, (by decide : 7 + 0 ≤ _), (by decide : 28 + 0 ≤ _)⟩)
  dsimp only [Pt.U, Pt.locs, Pt.cells, Pt.slots] at X47 l47 y47 z47 st47 hQ47
  rw [l47, y47, z47] at X47
  obtain ⟨rfl, N47q, hh47⟩ := hQ47
  have N47 := Fr.app N45 N47q
  obtain ⟨cq48, kq48, q48a, q48b, q48c⟩ := isOf hZ hh47 E_al_c37
  obtain ⟨_, _, ⟨T48, L48, k48, n48⟩, -, X48, ⟨Lc48, hQ48, l48, y48, z48⟩, st48⟩ := X47.interfaceBack hx (xi := M16) (y := M4) hown (mvT hZ (tw47 hw)) (mvT hZ (tw48 hw)) (mvT hZ (tw49 hw)) (mvT hZ (tw50 hw)) (mvT hZ (tw51 hw)) (mvT hZ (tw52 hw)) (mvT hZ (tw53 hw)) (mvT hZ (tw54 hw)) (by decide) (backOf (W := 1) (rmSz l Z a0 hw [] al ((3 : Int32)) h42 n0 Zs43 F_s_c37) hZ (tw55 hw) (tw25 hw) (by decide) (by decide)) q48a q48b q48c (g := (mkF m 326 #[.val (.ref a), .val (.ref ti), .val (.ref va), .val (.ref al), .val (.int (1 : Int32)), .val (.int ix2), .val (.int (ix2 - (1 : Int32)))] [(.ref al), (.int (2 : Int32))])) rfl (by rw [hml]; rfl) (Steps.refl _) (argsL := []) (rest := [(.int (2 : Int32))]) (lenOf pd___I rfl) rfl (own_mr rfl) (hb hby d1_326) (fun _ _ => ⟨rfl, hh47, (by decide : 7 + 0 ≤ _), (by decide : 28 + 0 ≤ _)⟩)
  dsimp only [Pt.U, Pt.locs, Pt.cells, Pt.slots] at X48 l48 y48 z48 st48 hQ48
  rw [l48, y48, z48] at X48
  obtain ⟨rfl, N48q, hh48⟩ := hQ48
  have N48 := Fr.app N47 N48q
  obtain ⟨cq49, kq49, q49a, q49b, q49c⟩ := isOf hZ hh48 E_al_c37
  obtain ⟨_, _, ⟨T49, L49, k49, n49⟩, -, X49, ⟨Lc49, hQ49, l49, y49, z49⟩, st49⟩ := X48.interfaceBack hx (xi := M17) (y := M15) hown (mvT hZ (tw120 hw)) (mvT hZ (tw121 hw)) (mvT hZ (tw122 hw)) (mvT hZ (tw123 hw)) (mvT hZ (tw124 hw)) (mvT hZ (tw125 hw)) (mvT hZ (tw126 hw)) (mvT hZ (tw54 hw)) (by decide) (backOf (W := 0) (rmGt l Z a0 hw [] al b b_k ((2 : Int32)) ([(.ref x1), (.ref x2), (.ref x3), .null, .null, .null, .null, .null, .null, .null]) x3 ((3 : Int32)) h42 n0 Zs43 E_al_c37 F_s_c37 F_e_c37 V_b_c37 (by decide) (by decide) rfl) hZ (tw127 hw) (tw25 hw) (by decide) (by decide)) q49a q49b q49c (g := (mkF m 339 #[.val (.ref a), .val (.ref ti), .val (.ref va), .val (.ref al), .val (.int (1 : Int32)), .val (.int ix2), .val (.int (ix2 - (1 : Int32)))] [(.int (2 : Int32)), (.ref al)])) rfl (by rw [hml]; rfl) (Steps.refl _) (argsL := [(.int (2 : Int32))]) (rest := []) (lenOf pd__I_Ljava_lang_Object_ rfl) rfl (own_mr rfl) (hb hby d1_339) (fun _ _ => ⟨rfl, hh48, (by decide : 7 + 0 ≤ _), (by decide : 28 + 0 ≤ _)⟩)
  dsimp only [Pt.U, Pt.locs, Pt.cells, Pt.slots] at X49 l49 y49 z49 st49 hQ49
  rw [l49, y49, z49] at X49
  obtain ⟨rfl, N49q, hh49⟩ := hQ49
  have N49 := Fr.app N48 N49q
  obtain ⟨T50, X50, e50, st50⟩ := castY X49 hx hZ hown (tw141 hw) hh49 (Ins.self E_x3_c37) (g := (mkF m 344 #[.val (.ref a), .val (.ref ti), .val (.ref va), .val (.ref al), .val (.int (1 : Int32)), .val (.int ix2), .val (.int (ix2 - (1 : Int32)))] [(.ref x3)])) rfl rfl (hb hby d1_344)
  obtain ⟨cq51, kq51, q51a, q51b, q51c⟩ := isOf hZ e50 E_x3_c37
  obtain ⟨_, _, ⟨T51, L51, k51, n51⟩, -, X51, ⟨Lc51, hQ51, l51, y51, z51⟩, st51⟩ := X50.virtualBack hx (y := M11) (z := M11) hown (mvT hZ (tw143 hw)) (mvT hZ (tw144 hw)) (notFace_of_selects (args := #[]) (mvT hZ (tw146 hw))) (mvT hZ (tw146 hw)) (mvT hZ (tw145 hw)) (by decide) (backOf (W := 0) (rmIV l Z a0 hw [] x3 ix3 h42 n0 Zs43 F_x3_c37) hZ (tw147 hw) (tw84 hw) (by decide) (by decide)) q51a q51c (g := (mkF m 347 #[.val (.ref a), .val (.ref ti), .val (.ref va), .val (.ref al), .val (.int (1 : Int32)), .val (.int ix2), .val (.int (ix2 - (1 : Int32)))] [(.ref x3)])) rfl (by rw [hml]; rfl) (Steps.refl _) (argsL := []) (rest := []) (lenOf pd___I rfl) rfl (own_mr rfl) (hb hby d1_347) (fun _ _ => ⟨rfl, e50, (by decide : 7 + 0 ≤ _), (by decide : 28 + 0 ≤ _)⟩)
  dsimp only [Pt.U, Pt.locs, Pt.cells, Pt.slots] at X51 l51 y51 z51 st51 hQ51
  rw [l51, y51, z51] at X51
  obtain ⟨rfl, N51q, hh51⟩ := hQ51
  have N51 := Fr.app N49 N51q
  obtain ⟨T52, X52, e52, st52⟩ := getF X51 hx hZ hown (host := "") (Or.inl (tw58 hw)) Via.refl hh51 Fq4_c37 (g := (mkF m 362 #[.val (.ref a), .val (.ref ti), .val (.ref va), .val (.ref al), .val (.int (1 : Int32)), .val (.int ix2), .val (.int (ix3 - (1 : Int32)))] [(.ref a)])) rfl rfl (hb hby d1_362)
  obtain ⟨cl53, Ar53, aq53, aS53, aN53, aH53, aG53⟩ := id V_ti_c37
  have hin54 : ¬ (ix2 < 0 ∨ cl53.slots.size ≤ (ix2).toNatClampNeg) := inb_of aS53 hi2
  have hat54 : cl53.slots[(ix2).toNatClampNeg]? = some (dV ta2) := Has.at aH53 hin54 ht2
  obtain ⟨cl55, Ar55, aq55, aS55, aN55, aH55, aG55⟩ := id Vq30_c37
  have hin56 : ¬ ((1 : Int32) < 0 ∨ cl55.slots.size ≤ ((1 : Int32)).toNatClampNeg) := inb_of aS55 ⟨by decide, by decide⟩
  obtain ⟨T56, h56, X56, e56, W56, st56⟩ := stD X52 hx hZ e52 Ar55 (j := (1 : Int32)) hin56 (g := (mkF m 371 #[.val (.ref a), .val (.ref ti), .val (.ref va), .val (.ref al), .val (.int (1 : Int32)), .val (.int ix2), .val (.int (ix3 - (1 : Int32)))] [(dV ta2), (.int (1 : Int32)), (.ref b2)])) rfl rfl (hb hby d1_371)
  have N56 := Fr.snoc X56 N51 gnc12_1
  have Vq56 : Arv Z h56 b2 k2 .double (3 : Int32) [(dV ta1), (dV ta2), dZ] dZ := Arv.set Ar55 aq55 aS55 aN55 aH55 aG55 rfl W56 1 rfl (Nat.le_of_ble_eq_true rfl)
  replace E_a_c37 := E_a_c37.wr W56
  replace V_ti_c37 := V_ti_c37.other W56 nesc12_8
  replace V_va_c37 := V_va_c37.other W56 nesc12_9
  replace E_al_c37 := E_al_c37.wr W56
  replace F_s_c37 := F_s_c37.other W56 (Or.inl nesc12_10)
  replace F_e_c37 := F_e_c37.other W56 (Or.inl nesc12_10)
  replace V_b_c37 := V_b_c37.other W56 nesc12_11
  replace E_x3_c37 := E_x3_c37.wr W56
  replace F_x3_c37 := F_x3_c37.other W56 (Or.inl nesc12_14)
  replace Fq4_c37 := Fq4_c37.other W56 (Or.inl nesc12_7)
  replace Fq9_c37 := Fq9_c37.other W56 (Or.inl nesc12_7)
  replace Fq16_c37 := Fq16_c37.other W56 (Or.inl nesc12_7)
  replace Vq34_c37 := Vq34_c37.other W56 (Ne.symm nesc12_23)
  replace Vq42 := Vq42.other W56 (Ne.symm nesc37_32)
  have Zs57 := Nat.le_trans Zs43 (Keep.of_wr W56).1
  have KC57 := KC43.wr W56 (Or.inr szc12_0)
  obtain ⟨T58, X58, e58, st58⟩ := getF X56 hx hZ hown (host := "") (Or.inl (tw60 hw)) Via.refl e56 Fq9_c37 (g := (mkF m 373 #[.val (.ref a), .val (.ref ti), .val (.ref va), .val (.ref al), .val (.int (1 : Int32)), .val (.int ix2), .val (.int (ix3 - (1 : Int32)))] [(.ref a)])) rfl rfl (hb hby d1_373)
  obtain ⟨cl59, Ar59, aq59, aS59, aN59, aH59, aG59⟩ := id V_va_c37
  have hin60 : ¬ (ix2 < 0 ∨ cl59.slots.size ≤ (ix2).toNatClampNeg) := inb_of aS59 hi2
  have hat60 : cl59.slots[(ix2).toNatClampNeg]? = some (dV tb2) := Has.at aH59 hin60 hv2
  obtain ⟨cl61, Ar61, aq61, aS61, aN61, aH61, aG61⟩ := id Vq34_c37
  have hin62 : ¬ ((1 : Int32) < 0 ∨ cl61.slots.size ≤ ((1 : Int32)).toNatClampNeg) := inb_of aS61 ⟨by decide, by decide⟩
  obtain ⟨T62, h62, X62, e62, W62, st62⟩ := stD X58 hx hZ e58 Ar61 (j := (1 : Int32)) hin62 (g := (mkF m 391 #[.val (.ref a), .val (.ref ti), .val (.ref va), .val (.ref al), .val (.int (1 : Int32)), .val (.int ix2), .val (.int (ix3 - (1 : Int32)))] [(dV tb2), (.int (1 : Int32)), (.ref b7)])) rfl rfl (hb hby d1_391)
  have N62 := Fr.snoc X62 N56 gnc12_2
  have Vq62 : Arv Z h62 b7 k7 .double (3 : Int32) [dZ, (dV tb2), dZ] dZ := Arv.set Ar61 aq61 aS61 aN61 aH61 aG61 rfl W62 1 rfl (Nat.le_of_ble_eq_true rfl)
  replace E_a_c37 := E_a_c37.wr W62
  replace V_ti_c37 := V_ti_c37.other W62 nesc12_16
  replace V_va_c37 := V_va_c37.other W62 nesc12_17
  replace E_al_c37 := E_al_c37.wr W62
  replace F_s_c37 := F_s_c37.other W62 (Or.inl nesc12_18)
  replace F_e_c37 := F_e_c37.other W62 (Or.inl nesc12_18)
  replace V_b_c37 := V_b_c37.other W62 nesc12_19
  replace E_x3_c37 := E_x3_c37.wr W62
  replace F_x3_c37 := F_x3_c37.other W62 (Or.inl nesc12_22)
  replace Fq4_c37 := Fq4_c37.other W62 (Or.inl nesc12_15)
  replace Fq9_c37 := Fq9_c37.other W62 (Or.inl nesc12_15)
  replace Fq16_c37 := Fq16_c37.other W62 (Or.inl nesc12_15)
  replace Vq42 := Vq42.other W62 (Ne.symm nesc37_33)
  replace Vq56 := Vq56.other W62 nesc12_23
  have Zs63 := Nat.le_trans Zs57 (Keep.of_wr W62).1
  have KC63 := KC57.wr W62 (Or.inr szc12_1)
  obtain ⟨T64, X64, e64, st64⟩ := getF X62 hx hZ hown (host := "") (Or.inl (tw62 hw)) Via.refl e62 Fq16_c37 (g := (mkF m 393 #[.val (.ref a), .val (.ref ti), .val (.ref va), .val (.ref al), .val (.int (1 : Int32)), .val (.int ix2), .val (.int (ix3 - (1 : Int32)))] [(.ref a)])) rfl rfl (hb hby d1_393)
  obtain ⟨cl65, Ar65, aq65, aS65, aN65, aH65, aG65⟩ := id V_va_c37
  have hin66 : ¬ ((ix3 - (1 : Int32)) < 0 ∨ cl65.slots.size ≤ ((ix3 - (1 : Int32))).toNatClampNeg) := inb_of aS65 he2
  have hat66 : cl65.slots[((ix3 - (1 : Int32))).toNatClampNeg]? = some (dV tc2) := Has.at aH65 hin66 hc2
  obtain ⟨cl67, Ar67, aq67, aS67, aN67, aH67, aG67⟩ := id Vq42
  have hin68 : ¬ ((1 : Int32) < 0 ∨ cl67.slots.size ≤ ((1 : Int32)).toNatClampNeg) := inb_of aS67 ⟨by decide, by decide⟩
  obtain ⟨T68, h68, X68, e68, W68, st68⟩ := stD X64 hx hZ e64 Ar67 (j := (1 : Int32)) hin68 (g := (mkF m 402 #[.val (.ref a), .val (.ref ti), .val (.ref va), .val (.ref al), .val (.int (1 : Int32)), .val (.int ix2), .val (.int (ix3 - (1 : Int32)))] [(dV tc2), (.int (1 : Int32)), (.ref b14)])) rfl rfl (hb hby d1_402)
  have N68 := Fr.snoc X68 N62 gnc37_3
  have Vq68 : Arv Z h68 b14 k14 .double (3 : Int32) [(dV tc1), (dV tc2), dZ] dZ := Arv.set Ar67 aq67 aS67 aN67 aH67 aG67 rfl W68 1 rfl (Nat.le_of_ble_eq_true rfl)
  replace E_a_c37 := E_a_c37.wr W68
  replace V_ti_c37 := V_ti_c37.other W68 nesc37_25
  replace V_va_c37 := V_va_c37.other W68 nesc37_26
  replace E_al_c37 := E_al_c37.wr W68
  replace F_s_c37 := F_s_c37.other W68 (Or.inl nesc37_27)
  replace F_e_c37 := F_e_c37.other W68 (Or.inl nesc37_27)
  replace V_b_c37 := V_b_c37.other W68 nesc37_28
  replace E_x3_c37 := E_x3_c37.wr W68
  replace F_x3_c37 := F_x3_c37.other W68 (Or.inl nesc37_31)
  replace Fq4_c37 := Fq4_c37.other W68 (Or.inl nesc37_24)
  replace Fq9_c37 := Fq9_c37.other W68 (Or.inl nesc37_24)
  replace Fq16_c37 := Fq16_c37.other W68 (Or.inl nesc37_24)
  replace Vq56 := Vq56.other W68 nesc37_32
  replace Vq62 := Vq62.other W68 nesc37_33
  have Zs69 := Nat.le_trans Zs63 (Keep.of_wr W68).1
  have KC69 := KC63.wr W68 (Or.inr szc37_2)
  have pre70 : Pr p e below I0 T68 (mkF m 403 #[.val (.ref a), .val (.ref ti), .val (.ref va), .val (.ref al), .val (.int (1 : Int32)), .val (.int ix2), .val (.int (ix3 - (1 : Int32)))] []) := by
   intro tg kk
   refine pre37 tg ?_
   refine XS.aloadN X37.here hx rfl (hb hby d1_392) rfl rfl ?_
   refine st38 _ ?_
   refine XS.iload X38.here hx rfl (hb hby d1_396) rfl ?_
   refine XS.aloadN X38.here hx rfl (hb hby d1_398) rfl rfl ?_
   refine XS.iload X38.here hx rfl (hb hby d1_399) rfl ?_
   refine X38.daload hx (j := (ix2 - (1 : Int32))) (v := (dV tc1)) (by rw [e38]; exact Ar39.1) (State.isArrayOf_alike hZ.alike Ar39.2.1) Ar39.2.2 hin40 hat40 (g := (mkF m 401 #[.val (.ref a), .val (.ref ti), .val (.ref va), .val (.ref al), .val (.int (0 : Int32)), .val (.int ix1), .val (.int (ix2 - (1 : Int32)))] [(.int (ix2 - (1 : Int32))), (.ref va), (.int (0 : Int32)), (.ref b14)])) rfl rfl (hb hby d1_401) _ ?_
   refine st42 _ ?_
   refine XS.iinc X42.here hx rfl (hb hby d1_403) rfl (l' := #[.val (.ref a), .val (.ref ti), .val (.ref va), .val (.ref al), .val (.int (1 : Int32)), .val (.int ix1), .val (.int (ix2 - (1 : Int32)))]) rfl ?_
   refine XS.goto X42.here hx rfl (pc0 := 406) (pc' := 294) rfl (hb hby d1_406) (by decide) (by decide) ?_
   refine XS.iload X42.here hx rfl (hb hby d1_294) rfl ?_
   refine XS.aloadN X42.here hx rfl (hb hby d1_296) rfl rfl ?_
   refine st44.trans ?_
   refine XS.icmpNo X44.here hx rfl (hb hby d1_302) rfl (XT.ii_ge_f (by decide)) ?_
   refine XS.aloadN X44.here hx rfl (hb hby d1_305) rfl rfl ?_
   refine XS.iload X44.here hx rfl (hb hby d1_306) rfl ?_
   refine st45.trans ?_
   refine st46 _ ?_
   refine st47.trans ?_
   refine XS.istore X47.here hx rfl (hb hby d1_319) rfl (l' := #[.val (.ref a), .val (.ref ti), .val (.ref va), .val (.ref al), .val (.int (1 : Int32)), .val (.int ix2), .val (.int (ix2 - (1 : Int32)))]) rfl ?_
   refine XS.iload X47.here hx rfl (hb hby d1_321) rfl ?_
   refine XS.iconst X47.here hx rfl (hb hby d1_323) ?_
   refine XS.iadd X47.here hx rfl (hb hby d1_324) rfl ?_
   refine XS.aloadN X47.here hx rfl (hb hby d1_325) rfl rfl ?_
   refine st48.trans ?_
   refine XS.icmpNo X48.here hx rfl (hb hby d1_331) rfl (XT.ii_ge_f (by decide)) ?_
   refine XS.aloadN X48.here hx rfl (hb hby d1_334) rfl rfl ?_
   refine XS.iload X48.here hx rfl (hb hby d1_335) rfl ?_
   refine XS.iconst X48.here hx rfl (hb hby d1_337) ?_
   refine XS.iadd X48.here hx rfl (hb hby d1_338) rfl ?_
   refine st49.trans ?_
   refine st50 _ ?_
   refine st51.trans ?_
   refine XS.iconst X51.here hx rfl (hb hby d1_350) ?_
   refine XS.isub X51.here hx rfl (hb hby d1_351) rfl ?_
   refine XS.goto X51.here hx rfl (pc0 := 352) (pc' := 359) rfl (hb hby d1_352) (by decide) (by decide) ?_
   refine XS.istore X51.here hx rfl (hb hby d1_359) rfl (l' := #[.val (.ref a), .val (.ref ti), .val (.ref va), .val (.ref al), .val (.int (1 : Int32)), .val (.int ix2), .val (.int (ix3 - (1 : Int32)))]) rfl ?_
   refine XS.aloadN X51.here hx rfl (hb hby d1_361) rfl rfl ?_
   refine st52 _ ?_
   refine XS.iload X52.here hx rfl (hb hby d1_365) rfl ?_
   refine XS.aloadN X52.here hx rfl (hb hby d1_367) rfl rfl ?_
   refine XS.iload X52.here hx rfl (hb hby d1_368) rfl ?_
   refine X52.daload hx (j := ix2) (v := (dV ta2)) (by rw [e52]; exact Ar53.1) (State.isArrayOf_alike hZ.alike Ar53.2.1) Ar53.2.2 hin54 hat54 (g := (mkF m 370 #[.val (.ref a), .val (.ref ti), .val (.ref va), .val (.ref al), .val (.int (1 : Int32)), .val (.int ix2), .val (.int (ix3 - (1 : Int32)))] [(.int ix2), (.ref ti), (.int (1 : Int32)), (.ref b2)])) rfl rfl (hb hby d1_370) _ ?_
   refine st56 _ ?_
   refine XS.aloadN X56.here hx rfl (hb hby d1_372) rfl rfl ?_
   refine st58 _ ?_
   refine XS.iload X58.here hx rfl (hb hby d1_376) rfl ?_
   refine XS.iload X58.here hx rfl (hb hby d1_378) rfl ?_
   refine XS.ifYes X58.here hx rfl (pc0 := 380) (pc' := 387) rfl (hb hby d1_380) rfl (XT.i0_ne_t (by decide)) (by decide) (by decide) ?_
   refine XS.aloadN X58.here hx rfl (hb hby d1_387) rfl rfl ?_
   refine XS.iload X58.here hx rfl (hb hby d1_388) rfl ?_
   refine X58.daload hx (j := ix2) (v := (dV tb2)) (by rw [e58]; exact Ar59.1) (State.isArrayOf_alike hZ.alike Ar59.2.1) Ar59.2.2 hin60 hat60 (g := (mkF m 390 #[.val (.ref a), .val (.ref ti), .val (.ref va), .val (.ref al), .val (.int (1 : Int32)), .val (.int ix2), .val (.int (ix3 - (1 : Int32)))] [(.int ix2), (.ref va), (.int (1 : Int32)), (.ref b7)])) rfl rfl (hb hby d1_390) _ ?_
   refine st62 _ ?_
   refine XS.aloadN X62.here hx rfl (hb hby d1_392) rfl rfl ?_
   refine st64 _ ?_
   refine XS.iload X64.here hx rfl (hb hby d1_396) rfl ?_
   refine XS.aloadN X64.here hx rfl (hb hby d1_398) rfl rfl ?_
   refine XS.iload X64.here hx rfl (hb hby d1_399) rfl ?_
   refine X64.daload hx (j := (ix3 - (1 : Int32))) (v := (dV tc2)) (by rw [e64]; exact Ar65.1) (State.isArrayOf_alike hZ.alike Ar65.2.1) Ar65.2.2 hin66 hat66 (g := (mkF m 401 #[.val (.ref a), .val (.ref ti), .val (.ref va), .val (.ref al), .val (.int (1 : Int32)), .val (.int ix2), .val (.int (ix3 - (1 : Int32)))] [(.int (ix3 - (1 : Int32))), (.ref va), (.int (1 : Int32)), (.ref b14)])) rfl rfl (hb hby d1_401) _ ?_
   refine st68 _ ?_
   exact kk
  exact ⟨T68, _, h68, X68, N68, e68, Zs69, KC69, E_a_c37, V_ti_c37, V_va_c37, E_al_c37, F_s_c37, F_e_c37, V_b_c37, E_x3_c37, F_x3_c37, Fq4_c37, Fq9_c37, Fq16_c37, Vq56, Vq62, Vq68, pre70⟩
 clear pre37 X37 N37 e37 KC37 Zs37 E_a_c37 V_ti_c37 V_va_c37 E_al_c37 F_s_c37 F_e_c37 V_b_c37 E_x2_c37 E_x3_c37 F_x2_c37 F_x3_c37 Fq4_c37 Fq9_c37 V_b14_c37 Fq16_c37 Vq30_c37 Vq34_c37
 obtain ⟨cq72, kq72, q72a, q72b, q72c⟩ := isOf hZ e71 E_al_c71
 obtain ⟨_, _, ⟨T72, L72, k72, n72⟩, -, X72, ⟨Lc72, hQ72, l72, y72, z72⟩, st72⟩ := X71.interfaceBack hx (xi := M16) (y := M4) hown (mvT hZ (tw47 hw)) (mvT hZ (tw48 hw)) (mvT hZ (tw49 hw)) (mvT hZ (tw50 hw)) (mvT hZ (tw51 hw)) (mvT hZ (tw52 hw)) (mvT hZ (tw53 hw)) (mvT hZ (tw54 hw)) (by decide) (backOf (W := 1) (rmSz l Z a0 hw [] al ((3 : Int32)) Hc71 n0 Zs71 F_s_c71) hZ (tw55 hw) (tw25 hw) (by decide) (by decide)) q72a q72b q72c (g := (mkF m 297 #[.val (.ref a), .val (.ref ti), .val (.ref va), .val (.ref al), .val (.int (2 : Int32)), .val (.int ix2), .val (.int (ix3 - (1 : Int32)))] [(.ref al), (.int (2 : Int32))])) rfl (by rw [hml]; rfl) (Steps.refl _) (argsL := []) (rest := [(.int (2 : Int32))]) (lenOf pd___I rfl) rfl (own_mr rfl) (hb hby d1_297) (fun _ _ => ⟨rfl, e71, (by decide : 7 + 0 ≤ _), (by decide : 28 + 0 ≤ _)⟩)
 dsimp only [Pt.U, Pt.locs, Pt.cells, Pt.slots] at X72 l72 y72 z72 st72 hQ72
 rw [l72, y72, z72] at X72
 obtain ⟨rfl, N72q, hh72⟩ := hQ72
 have N72 := Fr.app N71 N72q
 obtain ⟨cq73, kq73, q73a, q73b, q73c⟩ := isOf hZ hh72 E_al_c71
 obtain ⟨_, _, ⟨T73, L73, k73, n73⟩, -, X73, ⟨Lc73, hQ73, l73, y73, z73⟩, st73⟩ := X72.interfaceBack hx (xi := M17) (y := M15) hown (mvT hZ (tw120 hw)) (mvT hZ (tw121 hw)) (mvT hZ (tw122 hw)) (mvT hZ (tw123 hw)) (mvT hZ (tw124 hw)) (mvT hZ (tw125 hw)) (mvT hZ (tw126 hw)) (mvT hZ (tw54 hw)) (by decide) (backOf (W := 0) (rmGt l Z a0 hw [] al b b_k ((2 : Int32)) ([(.ref x1), (.ref x2), (.ref x3), .null, .null, .null, .null, .null, .null, .null]) x3 ((3 : Int32)) Hc71 n0 Zs71 E_al_c71 F_s_c71 F_e_c71 V_b_c71 (by decide) (by decide) rfl) hZ (tw127 hw) (tw25 hw) (by decide) (by decide)) q73a q73b q73c (g := (mkF m 308 #[.val (.ref a), .val (.ref ti), .val (.ref va), .val (.ref al), .val (.int (2 : Int32)), .val (.int ix2), .val (.int (ix3 - (1 : Int32)))] [(.int (2 : Int32)), (.ref al)])) rfl (by rw [hml]; rfl) (Steps.refl _) (argsL := [(.int (2 : Int32))]) (rest := []) (lenOf pd__I_Ljava_lang_Object_ rfl) rfl (own_mr rfl) (hb hby d1_308) (fun _ _ => ⟨rfl, hh72, (by decide : 7 + 0 ≤ _), (by decide : 28 + 0 ≤ _)⟩)
 dsimp only [Pt.U, Pt.locs, Pt.cells, Pt.slots] at X73 l73 y73 z73 st73 hQ73
 rw [l73, y73, z73] at X73
 obtain ⟨rfl, N73q, hh73⟩ := hQ73
 have N73 := Fr.app N72 N73q
 obtain ⟨T74, X74, e74, st74⟩ := castY X73 hx hZ hown (tw141 hw) hh73 (Ins.self E_x3_c71) (g := (mkF m 313 #[.val (.ref a), .val (.ref ti), .val (.ref va), .val (.ref al), .val (.int (2 : Int32)), .val (.int ix2), .val (.int (ix3 - (1 : Int32)))] [(.ref x3)])) rfl rfl (hb hby d1_313)
 obtain ⟨cq75, kq75, q75a, q75b, q75c⟩ := isOf hZ e74 E_x3_c71
 obtain ⟨_, _, ⟨T75, L75, k75, n75⟩, -, X75, ⟨Lc75, hQ75, l75, y75, z75⟩, st75⟩ := X74.virtualBack hx (y := M11) (z := M11) hown (mvT hZ (tw143 hw)) (mvT hZ (tw144 hw)) (notFace_of_selects (args := #[]) (mvT hZ (tw146 hw))) (mvT hZ (tw146 hw)) (mvT hZ (tw145 hw)) (by decide) (backOf (W := 0) (rmIV l Z a0 hw [] x3 ix3 Hc71 n0 Zs71 F_x3_c71) hZ (tw147 hw) (tw84 hw) (by decide) (by decide)) q75a q75c (g := (mkF m 316 #[.val (.ref a), .val (.ref ti), .val (.ref va), .val (.ref al), .val (.int (2 : Int32)), .val (.int ix2), .val (.int (ix3 - (1 : Int32)))] [(.ref x3)])) rfl (by rw [hml]; rfl) (Steps.refl _) (argsL := []) (rest := []) (lenOf pd___I rfl) rfl (own_mr rfl) (hb hby d1_316) (fun _ _ => ⟨rfl, e74, (by decide : 7 + 0 ≤ _), (by decide : 28 + 0 ≤ _)⟩)
 dsimp only [Pt.U, Pt.locs, Pt.cells, Pt.slots] at X75 l75 y75 z75 st75 hQ75
 rw [l75, y75, z75] at X75
 obtain ⟨rfl, N75q, hh75⟩ := hQ75
 have N75 := Fr.app N73 N75q
 obtain ⟨cq76, kq76, q76a, q76b, q76c⟩ := isOf hZ hh75 E_al_c71
 obtain ⟨_, _, ⟨T76, L76, k76, n76⟩, -, X76, ⟨Lc76, hQ76, l76, y76, z76⟩, st76⟩ := X75.interfaceBack hx (xi := M16) (y := M4) hown (mvT hZ (tw47 hw)) (mvT hZ (tw48 hw)) (mvT hZ (tw49 hw)) (mvT hZ (tw50 hw)) (mvT hZ (tw51 hw)) (mvT hZ (tw52 hw)) (mvT hZ (tw53 hw)) (mvT hZ (tw54 hw)) (by decide) (backOf (W := 1) (rmSz l Z a0 hw [] al ((3 : Int32)) Hc71 n0 Zs71 F_s_c71) hZ (tw55 hw) (tw25 hw) (by decide) (by decide)) q76a q76b q76c (g := (mkF m 326 #[.val (.ref a), .val (.ref ti), .val (.ref va), .val (.ref al), .val (.int (2 : Int32)), .val (.int ix3), .val (.int (ix3 - (1 : Int32)))] [(.ref al), (.int (3 : Int32))])) rfl (by rw [hml]; rfl) (Steps.refl _) (argsL := []) (rest := [(.int (3 : Int32))]) (lenOf pd___I rfl) rfl (own_mr rfl) (hb hby d1_326) (fun _ _ => ⟨rfl, hh75, (by decide : 7 + 0 ≤ _), (by decide : 28 + 0 ≤ _)⟩)
 dsimp only [Pt.U, Pt.locs, Pt.cells, Pt.slots] at X76 l76 y76 z76 st76 hQ76
 rw [l76, y76, z76] at X76
 obtain ⟨rfl, N76q, hh76⟩ := hQ76
 have N76 := Fr.app N75 N76q
 obtain ⟨cl77, Ar77, aq77, aS77, aN77, aH77, aG77⟩ := id V_ti_c71
 obtain ⟨T78, X78, e78, st78⟩ := getF X76 hx hZ hown (host := "") (Or.inl (tw58 hw)) Via.refl hh76 Fq4_c71 (g := (mkF m 362 #[.val (.ref a), .val (.ref ti), .val (.ref va), .val (.ref al), .val (.int (2 : Int32)), .val (.int ix3), .val (.int (ln - (1 : Int32)))] [(.ref a)])) rfl rfl (hb hby d1_362)
 obtain ⟨cl79, Ar79, aq79, aS79, aN79, aH79, aG79⟩ := id V_ti_c71
 have hin80 : ¬ (ix3 < 0 ∨ cl79.slots.size ≤ (ix3).toNatClampNeg) := inb_of aS79 hi3
 have hat80 : cl79.slots[(ix3).toNatClampNeg]? = some (dV ta3) := Has.at aH79 hin80 ht3
 obtain ⟨cl81, Ar81, aq81, aS81, aN81, aH81, aG81⟩ := id Vq56_c71
 have hin82 : ¬ ((2 : Int32) < 0 ∨ cl81.slots.size ≤ ((2 : Int32)).toNatClampNeg) := inb_of aS81 ⟨by decide, by decide⟩
 obtain ⟨T82, h82, X82, e82, W82, st82⟩ := stD X78 hx hZ e78 Ar81 (j := (2 : Int32)) hin82 (g := (mkF m 371 #[.val (.ref a), .val (.ref ti), .val (.ref va), .val (.ref al), .val (.int (2 : Int32)), .val (.int ix3), .val (.int (ln - (1 : Int32)))] [(dV ta3), (.int (2 : Int32)), (.ref b2)])) rfl rfl (hb hby d1_371)
 have N82 := Fr.snoc X82 N76 gnc12_1
 have Vq82 : Arv Z h82 b2 k2 .double (3 : Int32) [(dV ta1), (dV ta2), (dV ta3)] dZ := Arv.set Ar81 aq81 aS81 aN81 aH81 aG81 rfl W82 2 rfl (Nat.le_of_ble_eq_true rfl)
 replace E_a_c71 := E_a_c71.wr W82
 replace V_va_c71 := V_va_c71.other W82 nesc12_9
 replace E_al_c71 := E_al_c71.wr W82
 replace F_s_c71 := F_s_c71.other W82 (Or.inl nesc12_10)
 replace Fq4_c71 := Fq4_c71.other W82 (Or.inl nesc12_7)
 replace Fq9_c71 := Fq9_c71.other W82 (Or.inl nesc12_7)
 replace Fq16_c71 := Fq16_c71.other W82 (Or.inl nesc12_7)
 replace Vq62_c71 := Vq62_c71.other W82 (Ne.symm nesc12_23)
 replace Vq68_c71 := Vq68_c71.other W82 (Ne.symm nesc37_32)
 have Zs83 := Nat.le_trans Zs71 (Keep.of_wr W82).1
 have KC83 := KC71.wr W82 (Or.inr szc12_0)
 obtain ⟨T84, X84, e84, st84⟩ := getF X82 hx hZ hown (host := "") (Or.inl (tw60 hw)) Via.refl e82 Fq9_c71 (g := (mkF m 373 #[.val (.ref a), .val (.ref ti), .val (.ref va), .val (.ref al), .val (.int (2 : Int32)), .val (.int ix3), .val (.int (ln - (1 : Int32)))] [(.ref a)])) rfl rfl (hb hby d1_373)
 obtain ⟨cl85, Ar85, aq85, aS85, aN85, aH85, aG85⟩ := id V_va_c71
 have hin86 : ¬ (ix3 < 0 ∨ cl85.slots.size ≤ (ix3).toNatClampNeg) := inb_of aS85 hi3
 have hat86 : cl85.slots[(ix3).toNatClampNeg]? = some (dV tb3) := Has.at aH85 hin86 hv3
 obtain ⟨cl87, Ar87, aq87, aS87, aN87, aH87, aG87⟩ := id Vq62_c71
 have hin88 : ¬ ((2 : Int32) < 0 ∨ cl87.slots.size ≤ ((2 : Int32)).toNatClampNeg) := inb_of aS87 ⟨by decide, by decide⟩
 obtain ⟨T88, h88, X88, e88, W88, st88⟩ := stD X84 hx hZ e84 Ar87 (j := (2 : Int32)) hin88 (g := (mkF m 391 #[.val (.ref a), .val (.ref ti), .val (.ref va), .val (.ref al), .val (.int (2 : Int32)), .val (.int ix3), .val (.int (ln - (1 : Int32)))] [(dV tb3), (.int (2 : Int32)), (.ref b7)])) rfl rfl (hb hby d1_391)
 have N88 := Fr.snoc X88 N82 gnc12_2
 have Vq88 : Arv Z h88 b7 k7 .double (3 : Int32) [dZ, (dV tb2), (dV tb3)] dZ := Arv.set Ar87 aq87 aS87 aN87 aH87 aG87 rfl W88 2 rfl (Nat.le_of_ble_eq_true rfl)
 replace E_a_c71 := E_a_c71.wr W88
 replace V_va_c71 := V_va_c71.other W88 nesc12_17
 replace E_al_c71 := E_al_c71.wr W88
 replace F_s_c71 := F_s_c71.other W88 (Or.inl nesc12_18)
 replace Fq4_c71 := Fq4_c71.other W88 (Or.inl nesc12_15)
 replace Fq9_c71 := Fq9_c71.other W88 (Or.inl nesc12_15)
 replace Fq16_c71 := Fq16_c71.other W88 (Or.inl nesc12_15)
 replace Vq68_c71 := Vq68_c71.other W88 (Ne.symm nesc37_33)
 replace Vq82 := Vq82.other W88 nesc12_23
 have Zs89 := Nat.le_trans Zs83 (Keep.of_wr W88).1
 have KC89 := KC83.wr W88 (Or.inr szc12_1)
 obtain ⟨T90, X90, e90, st90⟩ := getF X88 hx hZ hown (host := "") (Or.inl (tw62 hw)) Via.refl e88 Fq16_c71 (g := (mkF m 393 #[.val (.ref a), .val (.ref ti), .val (.ref va), .val (.ref al), .val (.int (2 : Int32)), .val (.int ix3), .val (.int (ln - (1 : Int32)))] [(.ref a)])) rfl rfl (hb hby d1_393)
 obtain ⟨cl91, Ar91, aq91, aS91, aN91, aH91, aG91⟩ := id V_va_c71
 have hin92 : ¬ ((ln - (1 : Int32)) < 0 ∨ cl91.slots.size ≤ ((ln - (1 : Int32))).toNatClampNeg) := inb_of aS91 he3
 have hat92 : cl91.slots[((ln - (1 : Int32))).toNatClampNeg]? = some (dV tc3) := Has.at aH91 hin92 hc3
 obtain ⟨cl93, Ar93, aq93, aS93, aN93, aH93, aG93⟩ := id Vq68_c71
 have hin94 : ¬ ((2 : Int32) < 0 ∨ cl93.slots.size ≤ ((2 : Int32)).toNatClampNeg) := inb_of aS93 ⟨by decide, by decide⟩
 obtain ⟨T94, h94, X94, e94, W94, st94⟩ := stD X90 hx hZ e90 Ar93 (j := (2 : Int32)) hin94 (g := (mkF m 402 #[.val (.ref a), .val (.ref ti), .val (.ref va), .val (.ref al), .val (.int (2 : Int32)), .val (.int ix3), .val (.int (ln - (1 : Int32)))] [(dV tc3), (.int (2 : Int32)), (.ref b14)])) rfl rfl (hb hby d1_402)
 have N94 := Fr.snoc X94 N88 gnc37_3
 have Vq94 : Arv Z h94 b14 k14 .double (3 : Int32) [(dV tc1), (dV tc2), (dV tc3)] dZ := Arv.set Ar93 aq93 aS93 aN93 aH93 aG93 rfl W94 2 rfl (Nat.le_of_ble_eq_true rfl)
 replace E_a_c71 := E_a_c71.wr W94
 replace E_al_c71 := E_al_c71.wr W94
 replace F_s_c71 := F_s_c71.other W94 (Or.inl nesc37_27)
 replace Fq4_c71 := Fq4_c71.other W94 (Or.inl nesc37_24)
 replace Fq9_c71 := Fq9_c71.other W94 (Or.inl nesc37_24)
 replace Fq16_c71 := Fq16_c71.other W94 (Or.inl nesc37_24)
 replace Vq82 := Vq82.other W94 nesc37_32
 replace Vq88 := Vq88.other W94 nesc37_33
 have Zs95 := Nat.le_trans Zs89 (Keep.of_wr W94).1
 have KC95 := KC89.wr W94 (Or.inr szc37_2)
 obtain ⟨cq96, kq96, q96a, q96b, q96c⟩ := isOf hZ e94 E_al_c71
 obtain ⟨_, _, ⟨T96, L96, k96, n96⟩, -, X96, ⟨Lc96, hQ96, l96, y96, z96⟩, st96⟩ := X94.interfaceBack hx (xi := M16) (y := M4) hown (mvT hZ (tw47 hw)) (mvT hZ (tw48 hw)) (mvT hZ (tw49 hw)) (mvT hZ (tw50 hw)) (mvT hZ (tw51 hw)) (mvT hZ (tw52 hw)) (mvT hZ (tw53 hw)) (mvT hZ (tw54 hw)) (by decide) (backOf (W := 1) (rmSz l Z a0 hw [] al ((3 : Int32)) h94 n0 Zs95 F_s_c71) hZ (tw55 hw) (tw25 hw) (by decide) (by decide)) q96a q96b q96c (g := (mkF m 297 #[.val (.ref a), .val (.ref ti), .val (.ref va), .val (.ref al), .val (.int (3 : Int32)), .val (.int ix3), .val (.int (ln - (1 : Int32)))] [(.ref al), (.int (3 : Int32))])) rfl (by rw [hml]; rfl) (Steps.refl _) (argsL := []) (rest := [(.int (3 : Int32))]) (lenOf pd___I rfl) rfl (own_mr rfl) (hb hby d1_297) (fun _ _ => ⟨rfl, e94, (by decide : 7 + 0 ≤ _), (by decide : 28 + 0 ≤ _)⟩)
 dsimp only [Pt.U, Pt.locs, Pt.cells, Pt.slots] at X96 l96 y96 z96 st96 hQ96
 rw [l96, y96, z96] at X96
 obtain ⟨rfl, N96q, hh96⟩ := hQ96
 have N96 := Fr.app N94 N96q
 have pre97 : Pr p e below I0 T96 (mkF m 409 #[.val (.ref a), .val (.ref ti), .val (.ref va), .val (.ref al), .val (.int (3 : Int32)), .val (.int ix3), .val (.int (ln - (1 : Int32)))] []) := by
  intro tg kk
  refine pre71 tg ?_
  refine XS.iinc X71.here hx rfl (hb hby d1_403) rfl (l' := #[.val (.ref a), .val (.ref ti), .val (.ref va), .val (.ref al), .val (.int (2 : Int32)), .val (.int ix2), .val (.int (ix3 - (1 : Int32)))]) rfl ?_
  refine XS.goto X71.here hx rfl (pc0 := 406) (pc' := 294) rfl (hb hby d1_406) (by decide) (by decide) ?_
  refine XS.iload X71.here hx rfl (hb hby d1_294) rfl ?_
  refine XS.aloadN X71.here hx rfl (hb hby d1_296) rfl rfl ?_
  refine st72.trans ?_
  refine XS.icmpNo X72.here hx rfl (hb hby d1_302) rfl (XT.ii_ge_f (by decide)) ?_
  refine XS.aloadN X72.here hx rfl (hb hby d1_305) rfl rfl ?_
  refine XS.iload X72.here hx rfl (hb hby d1_306) rfl ?_
  refine st73.trans ?_
  refine st74 _ ?_
  refine st75.trans ?_
  refine XS.istore X75.here hx rfl (hb hby d1_319) rfl (l' := #[.val (.ref a), .val (.ref ti), .val (.ref va), .val (.ref al), .val (.int (2 : Int32)), .val (.int ix3), .val (.int (ix3 - (1 : Int32)))]) rfl ?_
  refine XS.iload X75.here hx rfl (hb hby d1_321) rfl ?_
  refine XS.iconst X75.here hx rfl (hb hby d1_323) ?_
  refine XS.iadd X75.here hx rfl (hb hby d1_324) rfl ?_
  refine XS.aloadN X75.here hx rfl (hb hby d1_325) rfl rfl ?_
  refine st76.trans ?_
  refine XS.icmpYes X76.here hx rfl (pc0 := 331) (pc' := 355) rfl (hb hby d1_331) rfl (XT.ii_ge_t (by decide)) (by decide) (by decide) ?_
  refine XS.aloadN X76.here hx rfl (hb hby d1_355) rfl rfl ?_
  refine X76.arraylength hx (by rw [hh76]; exact Ar77.1) (State.isArrayOf_alike hZ.alike Ar77.2.1) (g := (mkF m 356 #[.val (.ref a), .val (.ref ti), .val (.ref va), .val (.ref al), .val (.int (2 : Int32)), .val (.int ix3), .val (.int (ix3 - (1 : Int32)))] [(.ref ti)])) rfl rfl (hb hby d1_356) _ ?_
  rw [len_of aS77 aN77]
  refine XS.iconst X76.here hx rfl (hb hby d1_357) ?_
  refine XS.isub X76.here hx rfl (hb hby d1_358) rfl ?_
  refine XS.istore X76.here hx rfl (hb hby d1_359) rfl (l' := #[.val (.ref a), .val (.ref ti), .val (.ref va), .val (.ref al), .val (.int (2 : Int32)), .val (.int ix3), .val (.int (ln - (1 : Int32)))]) rfl ?_
  refine XS.aloadN X76.here hx rfl (hb hby d1_361) rfl rfl ?_
  refine st78 _ ?_
  refine XS.iload X78.here hx rfl (hb hby d1_365) rfl ?_
  refine XS.aloadN X78.here hx rfl (hb hby d1_367) rfl rfl ?_
  refine XS.iload X78.here hx rfl (hb hby d1_368) rfl ?_
  refine X78.daload hx (j := ix3) (v := (dV ta3)) (by rw [e78]; exact Ar79.1) (State.isArrayOf_alike hZ.alike Ar79.2.1) Ar79.2.2 hin80 hat80 (g := (mkF m 370 #[.val (.ref a), .val (.ref ti), .val (.ref va), .val (.ref al), .val (.int (2 : Int32)), .val (.int ix3), .val (.int (ln - (1 : Int32)))] [(.int ix3), (.ref ti), (.int (2 : Int32)), (.ref b2)])) rfl rfl (hb hby d1_370) _ ?_
  refine st82 _ ?_
  refine XS.aloadN X82.here hx rfl (hb hby d1_372) rfl rfl ?_
  refine st84 _ ?_
  refine XS.iload X84.here hx rfl (hb hby d1_376) rfl ?_
  refine XS.iload X84.here hx rfl (hb hby d1_378) rfl ?_
  refine XS.ifYes X84.here hx rfl (pc0 := 380) (pc' := 387) rfl (hb hby d1_380) rfl (XT.i0_ne_t (by decide)) (by decide) (by decide) ?_
  refine XS.aloadN X84.here hx rfl (hb hby d1_387) rfl rfl ?_
  refine XS.iload X84.here hx rfl (hb hby d1_388) rfl ?_
  refine X84.daload hx (j := ix3) (v := (dV tb3)) (by rw [e84]; exact Ar85.1) (State.isArrayOf_alike hZ.alike Ar85.2.1) Ar85.2.2 hin86 hat86 (g := (mkF m 390 #[.val (.ref a), .val (.ref ti), .val (.ref va), .val (.ref al), .val (.int (2 : Int32)), .val (.int ix3), .val (.int (ln - (1 : Int32)))] [(.int ix3), (.ref va), (.int (2 : Int32)), (.ref b7)])) rfl rfl (hb hby d1_390) _ ?_
  refine st88 _ ?_
  refine XS.aloadN X88.here hx rfl (hb hby d1_392) rfl rfl ?_
  refine st90 _ ?_
  refine XS.iload X90.here hx rfl (hb hby d1_396) rfl ?_
  refine XS.aloadN X90.here hx rfl (hb hby d1_398) rfl rfl ?_
  refine XS.iload X90.here hx rfl (hb hby d1_399) rfl ?_
  refine X90.daload hx (j := (ln - (1 : Int32))) (v := (dV tc3)) (by rw [e90]; exact Ar91.1) (State.isArrayOf_alike hZ.alike Ar91.2.1) Ar91.2.2 hin92 hat92 (g := (mkF m 401 #[.val (.ref a), .val (.ref ti), .val (.ref va), .val (.ref al), .val (.int (2 : Int32)), .val (.int ix3), .val (.int (ln - (1 : Int32)))] [(.int (ln - (1 : Int32))), (.ref va), (.int (2 : Int32)), (.ref b14)])) rfl rfl (hb hby d1_401) _ ?_
  refine st94 _ ?_
  refine XS.iinc X94.here hx rfl (hb hby d1_403) rfl (l' := #[.val (.ref a), .val (.ref ti), .val (.ref va), .val (.ref al), .val (.int (3 : Int32)), .val (.int ix3), .val (.int (ln - (1 : Int32)))]) rfl ?_
  refine XS.goto X94.here hx rfl (pc0 := 406) (pc' := 294) rfl (hb hby d1_406) (by decide) (by decide) ?_
  refine XS.iload X94.here hx rfl (hb hby d1_294) rfl ?_
  refine XS.aloadN X94.here hx rfl (hb hby d1_296) rfl rfl ?_
  refine st96.trans ?_
  refine XS.icmpYes X96.here hx rfl (pc0 := 302) (pc' := 409) rfl (hb hby d1_302) rfl (XT.ii_ge_t (by decide)) (by decide) (by decide) ?_
  exact kk
 exact ⟨T96, _, h94, b2, k2, b7, k7, b14, k14, X96, N96, hh96, Zs95, KC95, E_a_c71, Fq4_c71, Fq9_c71, Fq16_c71, Vq82, Vq88, Vq94, gnc12_1, szc12_0, gnc12_2, szc12_1, gnc37_3, szc37_2, pre97⟩
theorem d1_0 : decode cp_37_1 0 = .ok (.aload_n 0, 1) := by decide +kernel
theorem d1_1 : decode cp_37_1 1 = .ok (.invokespecial 1, 3) := by decide +kernel
theorem d1_4 : decode cp_37_1 4 = .ok (.aload_n 1, 1) := by decide +kernel
theorem d1_5 : decode cp_37_1 5 = .ok (.arraylength, 1) := by decide +kernel
theorem d1_6 : decode cp_37_1 6 = .ok (.aload_n 2, 1) := by decide +kernel
theorem d1_7 : decode cp_37_1 7 = .ok (.arraylength, 1) := by decide +kernel
theorem d1_8 : decode cp_37_1 8 = .ok (.if_icmp .eq 20, 3) := by decide +kernel
theorem d1_28 : decode cp_37_1 28 = .ok (.iconst 0, 1) := by decide +kernel
theorem d1_29 : decode cp_37_1 29 = .ok (.istore_n 3, 1) := by decide +kernel
theorem d1_211 : decode cp_37_1 211 = .ok (.iload 4, 2) := by decide +kernel
theorem d1_213 : decode cp_37_1 213 = .ok (.aload_n 1, 1) := by decide +kernel
theorem d1_214 : decode cp_37_1 214 = .ok (.arraylength, 1) := by decide +kernel
theorem d1_215 : decode cp_37_1 215 = .ok (.if_icmp .ge 40, 3) := by decide +kernel
theorem d1_409 : decode cp_37_1 409 = .ok (.return_, 1) := by decide +kernel
theorem pn_1 : plainName "com/example/narrow_bound/narrowbound/witness/CumulativeFunction" = true := by first | (simp [plainName, overriddenIn]; done) | decide +kernel
theorem ef1_RRR (m : MethodId) (x0 : Addr) (x1 : Addr) (x2 : Addr) : entryFrame m #[(.ref x0), (.ref x1), (.ref x2)] 7 = mkF m 0 #[.val (.ref x0), .val (.ref x1), .val (.ref x2), .unset, .unset, .unset, .unset] [] := by first | (simp [entryFrame, mkF, argsToLocals, Value.category]; done) | rfl
def QC0 (Z : State) (a : Addr) (ti : Addr) (ti_k : ClassId) (va : Addr) (va_k : ClassId) (kB : Nat) (aE : Addr) (kE : ClassId) (aC : Addr) (kC : ClassId) (lC : List Value) (i0 : Addr) (i1 : Addr) (i2 : Addr) (h0 : Heap) (n0 : Nat) (v : Option Value) (h : Heap) (L : List Loc) : Prop := ∃ (di : Addr) (di_k : ClassId) (dl : Addr) (dl_k : ClassId) (dr : Addr) (dr_k : ClassId), v = none ∧ Fr n0 L ∧ Keep h0 h [a] ∧ n0 ≤ di ∧ h0.size ≤ di ∧ n0 ≤ dl ∧ h0.size ≤ dl ∧ n0 ≤ dr ∧ h0.size ≤ dr ∧ Exa Z h a cF ∧ Fld Z h a cF "instants" "[D" (.ref di) ∧ Fld Z h a cF "lefts" "[D" (.ref dl) ∧ Fld Z h a cF "rights" "[D" (.ref dr) ∧ Arv Z h di di_k .double (0 : Int32) [] dZ ∧ Arv Z h dl dl_k .double (0 : Int32) [] dZ ∧ Arv Z h dr dr_k .double (0 : Int32) [] dZ
set_option maxRecDepth 65536 in
set_option maxHeartbeats 40000000 in
theorem rmC0 (l : Launch) (Z : State) (a0 : Array Value) (hw : HW a0 Z) (ws : List Jvm.Cond) (a : Addr) (ti : Addr) (ti_k : ClassId) (va : Addr) (va_k : ClassId) (kB : Nat) (aE : Addr) (kE : ClassId) (aC : Addr) (kC : ClassId) (lC : List Value) (i0 : Addr) (i1 : Addr) (i2 : Addr) (h0 : Heap) (n0 : Nat) (Z0 : n0 ≤ h0.size) (E_a : Exa Z h0 a cF) (F_times : Fld Z h0 a cF "times" "[D" .null) (F_values : Fld Z h0 a cF "values" "[D" .null) (F_instants : Fld Z h0 a cF "instants" "[D" .null) (F_lefts : Fld Z h0 a cF "lefts" "[D" .null) (F_rights : Fld Z h0 a cF "rights" "[D" .null) (V_ti : Arv Z h0 ti ti_k .double (0 : Int32) [] dZ) (E_ti : Exa Z h0 ti "[D") (V_va : Arv Z h0 va va_k .double (0 : Int32) [] dZ) (E_va : Exa Z h0 va "[D") (EN : EnvJ Z kB h0 aE kE aC kC lC i0 i1 i2) (hkB : kB ≤ h0.size) (k_a : kB ≤ a) (g_a : n0 ≤ a) (ne_ti_a : ti ≠ a) (ne_va_a : va ≠ a) :
    MetFree l M18 (head1 (Jvm.Cond.code M18 prog_37_method_1_code 7 none :: ws) R5_7_28_108) (fun ar UU => ar = #[(.ref a), (.ref ti), (.ref va)] ∧ Z.Warmed39 UU.vm ∧ UU.heap = h0) (fun _ _ _ _ _ => True) (fun _ UU oo UU' => ∃ vv LL, oo = .returned vv ∧ QC0 Z a ti ti_k va va_k kB aE kE aC kC lC i0 i1 i2 h0 n0 vv UU'.heap LL ∧ FrameEnd UU oo UU' LL R5_7_28_108.cells R5_7_28_108.slots) := by
 refine MetFree.of_bodySF (plainFor_of_name pn_1) hisR ?_
 intro p e s m args below meth c s₁ Bd hml0 hP hK
 obtain ⟨rfl, hZ, hh⟩ := hP
 have hx := Bd.exec
 have hby := Bd.bytes
 have hml : c.maxLocals = 7 := hml0
 have hown : s.vm.findClass "com/example/narrow_bound/narrowbound/witness/CumulativeFunction" = some m.cls := findClass_of_methodNamed Bd.named
 have hnm := (name_of_methodNamed Bd.named Bd.method).1
 have X0 : Stand p l e R5_7_28_108 s m #[(.ref a), (.ref ti), (.ref va)] below meth c s₁ [] 0 0 := Stand.of_body Bd
 have e0 : s₁.heap = h0 := by rw [← hh, Bd.state]; rfl
 have N0 := Fr.nil n0
 have KC0 : Keep h0 h0 [a] := Keep.refl h0 [a]
 have pre0 : ∀ tgt, Steps p.tables e below (s₁.setTop (mkF m 0 #[.val (.ref a), .val (.ref ti), .val (.ref va), .unset, .unset, .unset, .unset] [])) tgt → Steps p.tables e below (s₁.setTop (entryFrame m #[(.ref a), (.ref ti), (.ref va)] 7)) tgt := fun tgt kk => castTop (ef1_RRR m (a) (ti) (va)) kk
 generalize hI : s₁.setTop (entryFrame m #[(.ref a), (.ref ti), (.ref va)] 7) = I0 at pre0 ⊢
 obtain ⟨T9, lo9, Hc9, al5, di7, dl7, dr7, di_k7, dl_k7, dr_k7, X9, N9, e9, Zs9, KC9, P7_0_c9, P7_1_c9, P7_2_c9, P7_3_c9, P7_4_c9, P7_5_c9, P7_6_c9, gnc9_1, gnc9_2, gnc9_3, gnc9_4, szc9_0, szc9_1, szc9_2, szc9_3, nesc9_2, nesc9_3, nesc9_4, pre9⟩ : ∃ (T9 : State) (lo9 : List Loc) (Hc9 : Heap) (al5 : Addr) (di7 : Addr) (dl7 : Addr) (dr7 : Addr) (di_k7 : ClassId) (dl_k7 : ClassId) (dr_k7 : ClassId), Stand p l e R5_7_28_108 s m #[(.ref a), (.ref ti), (.ref va)] below meth c T9 lo9 7 19 ∧ Fr n0 lo9 ∧ T9.heap = Hc9 ∧ n0 ≤ Hc9.size ∧ Keep h0 Hc9 [a] ∧ Exa Z Hc9 a cF ∧ Fld Z Hc9 a cF "instants" "[D" (.ref di7) ∧ Fld Z Hc9 a cF "lefts" "[D" (.ref dl7) ∧ Fld Z Hc9 a cF "rights" "[D" (.ref dr7) ∧ Arv Z Hc9 di7 di_k7 .double (0 : Int32) [] dZ ∧ Arv Z Hc9 dl7 dl_k7 .double (0 : Int32) [] dZ ∧ Arv Z Hc9 dr7 dr_k7 .double (0 : Int32) [] dZ ∧ n0 ≤ al5 ∧ n0 ≤ di7 ∧ n0 ≤ dl7 ∧ n0 ≤ dr7 ∧ h0.size ≤ al5 ∧ h0.size ≤ di7 ∧ h0.size ≤ dl7 ∧ h0.size ≤ dr7 ∧ a ≠ al5 ∧ ti ≠ al5 ∧ va ≠ al5 ∧ Pr p e below I0 T9 (mkF m 409 #[.val (.ref a), .val (.ref ti), .val (.ref va), .val (.ref al5), .val (.int (0 : Int32)), .unset, .unset] []) := by
  obtain ⟨T1, X1, e1, st1⟩ := initO X0 hx hZ hown (tw7 hw) (tw8 hw) (tw9 hw) e0 (g := (mkF m 1 #[.val (.ref a), .val (.ref ti), .val (.ref va), .unset, .unset, .unset, .unset] [(.ref a)])) rfl (by rw [hml]; rfl) rfl (hb hby d1_1) (by decide) (W := 0) (own_mr rfl) (by decide)
  obtain ⟨cl2, Ar2, aq2, aS2, aN2, aH2, aG2⟩ := id V_ti
  obtain ⟨cl3, Ar3, aq3, aS3, aN3, aH3, aG3⟩ := id V_va
  obtain ⟨cl4, Ar4, aq4, aS4, aN4, aH4, aG4⟩ := id V_ti
  obtain ⟨T5, lo5, H5, al5, X5, N5, e5, Zs5, KC5, P5_0, P5_1, P5_2, P5_3, P5_4, P5_5, -, P5_7, -, P5_9, -, o5_0, o5_1, o5_2, o5_3, o5_4, st5⟩ := sA hw hx hby hml hZ hown hnm a ti ti_k va va_k ((0 : Int32)) ([]) ([]) ((0 : Int32)) kB aE kE aC kC lC i0 i1 i2 X1 N0 e1 Z0 KC0 E_a F_times F_values F_instants F_lefts F_rights V_ti E_ti V_va E_va EN hkB k_a g_a ne_ti_a ne_va_a (by decide)
  obtain ⟨cl6, Ar6, aq6, aS6, aN6, aH6, aG6⟩ := id P5_4
  obtain ⟨T7, lo7, H7, di7, di_k7, dl7, dl_k7, dr7, dr_k7, X7, N7, e7, Zs7, KC7, P7_0, P7_1, P7_2, P7_3, P7_4, P7_5, P7_6, o7_0, o7_1, o7_2, o7_3, o7_4, o7_5, st7⟩ := sC0 hw hx hby hml hZ hown hnm a ti ti_k va va_k ((0 : Int32)) ([]) ([]) ((0 : Int32)) al5 (X5.more (by decide) (by decide)) N5 e5 Zs5 KC5 P5_0 P5_1 P5_2 P5_3 P5_4 P5_5 P5_7 P5_9 g_a ne_ti_a ne_va_a (Ne.symm o5_2)
  have pre8 : Pr p e below I0 T7 (mkF m 409 #[.val (.ref a), .val (.ref ti), .val (.ref va), .val (.ref al5), .val (.int (0 : Int32)), .unset, .unset] []) := by
   intro tg kk
   refine pre0 tg ?_
   refine XS.aloadN X0.here hx rfl (hb hby d1_0) rfl rfl ?_
   refine st1 _ ?_
   refine XS.aloadN X1.here hx rfl (hb hby d1_4) rfl rfl ?_
   refine X1.arraylength hx (by rw [e1]; exact Ar2.1) (State.isArrayOf_alike hZ.alike Ar2.2.1) (g := (mkF m 5 #[.val (.ref a), .val (.ref ti), .val (.ref va), .unset, .unset, .unset, .unset] [(.ref ti)])) rfl rfl (hb hby d1_5) _ ?_
   rw [len_of aS2 aN2]
   refine XS.aloadN X1.here hx rfl (hb hby d1_6) rfl rfl ?_
   refine X1.arraylength hx (by rw [e1]; exact Ar3.1) (State.isArrayOf_alike hZ.alike Ar3.2.1) (g := (mkF m 7 #[.val (.ref a), .val (.ref ti), .val (.ref va), .unset, .unset, .unset, .unset] [(.ref va), (.int (0 : Int32))])) rfl rfl (hb hby d1_7) _ ?_
   rw [len_of aS3 aN3]
   refine XS.icmpYes X1.here hx rfl (pc0 := 8) (pc' := 28) rfl (hb hby d1_8) rfl (XT.ii_eq_t (by decide)) (by decide) (by decide) ?_
   refine XS.iconst X1.here hx rfl (hb hby d1_28) ?_
   refine XS.istoreN X1.here hx rfl (hb hby d1_29) rfl (l' := #[.val (.ref a), .val (.ref ti), .val (.ref va), .val (.int (0 : Int32)), .unset, .unset, .unset]) rfl ?_
   refine XS.iloadN X1.here hx rfl (hb hby d1_30) rfl ?_
   refine XS.aloadN X1.here hx rfl (hb hby d1_31) rfl rfl ?_
   refine X1.arraylength hx (by rw [e1]; exact Ar4.1) (State.isArrayOf_alike hZ.alike Ar4.2.1) (g := (mkF m 32 #[.val (.ref a), .val (.ref ti), .val (.ref va), .val (.int (0 : Int32)), .unset, .unset, .unset] [(.ref ti), (.int (0 : Int32))])) rfl rfl (hb hby d1_32) _ ?_
   rw [len_of aS4 aN4]
   refine XS.icmpYes X1.here hx rfl (pc0 := 33) (pc' := 178) rfl (hb hby d1_33) rfl (XT.ii_ge_t (by decide)) (by decide) (by decide) ?_
   refine st5 _ ?_
   refine XS.iload X5.here hx rfl (hb hby d1_211) rfl ?_
   refine XS.aloadN X5.here hx rfl (hb hby d1_213) rfl rfl ?_
   refine X5.arraylength hx (by rw [e5]; exact Ar6.1) (State.isArrayOf_alike hZ.alike Ar6.2.1) (g := (mkF m 214 #[.val (.ref a), .val (.ref ti), .val (.ref va), .val (.ref al5), .val (.int (0 : Int32)), .unset, .unset] [(.ref ti), (.int (0 : Int32))])) rfl rfl (hb hby d1_214) _ ?_
   rw [len_of aS6 aN6]
   refine XS.icmpYes X5.here hx rfl (pc0 := 215) (pc' := 255) rfl (hb hby d1_215) rfl (XT.ii_ge_t (by decide)) (by decide) (by decide) ?_
   refine st7 _ ?_
   exact kk
  exact ⟨T7, _, H7, al5, di7, dl7, dr7, di_k7, dl_k7, dr_k7, X7, N7, e7, Zs7, KC7, P7_0, P7_1, P7_2, P7_3, P7_4, P7_5, P7_6, o5_0, o7_0, o7_2, o7_4, o5_1, o7_1, o7_3, o7_5, o5_2, o5_3, o5_4, pre8⟩
 clear pre0 X0 N0 e0 KC0 Z0 E_a F_times F_values F_instants F_lefts F_rights V_ti E_ti V_va E_va EN
 obtain ⟨fs, hr, hrun, hended, hW, hsame⟩ := X9.leave (v := none) (fun _ => rfl)
 refine ⟨_, _, pre9 _ ?_, hrun, hended, _, _, rfl, ?_, ⟨_, rfl⟩, hW, hsame.mono (by decide) (by decide)⟩
 ·skip
  exact X9.returnOut hx Bd.returns (hb hby d1_409) hr
 ·show QC0 Z a ti ti_k va va_k kB aE kE aC kC lC i0 i1 i2 h0 n0 _ T9.heap _
  rw [e9]
  exact ⟨di7, di_k7, dl7, dl_k7, dr7, dr_k7, rfl, N9, KC9, gnc9_2, szc9_1, gnc9_3, szc9_2, gnc9_4, szc9_3, P7_0_c9, P7_1_c9, P7_2_c9, P7_3_c9, P7_4_c9, P7_5_c9, P7_6_c9⟩
theorem d1_218 : decode cp_37_1 218 = .ok (.iload 4, 2) := by decide +kernel
theorem d1_220 : decode cp_37_1 220 = .ok (.ifCond .eq 17, 3) := by decide +kernel
theorem d1_237 : decode cp_37_1 237 = .ok (.aload_n 3, 1) := by decide +kernel
theorem d1_238 : decode cp_37_1 238 = .ok (.iload 4, 2) := by decide +kernel
theorem d1_240 : decode cp_37_1 240 = .ok (.invokestatic 49, 3) := by decide +kernel
theorem d1_243 : decode cp_37_1 243 = .ok (.invokeinterface 55 2, 5) := by decide +kernel
theorem d1_248 : decode cp_37_1 248 = .ok (.pop, 1) := by decide +kernel
theorem d1_249 : decode cp_37_1 249 = .ok (.iinc 4 1, 3) := by decide +kernel
theorem d1_252 : decode cp_37_1 252 = .ok (.goto (-41), 3) := by decide +kernel
theorem pd__I_Ljava_lang_Integer_ : parseMethodDescriptor "(I)Ljava/lang/Integer;" = some ⟨[.int], some (.object "java/lang/Integer")⟩ := by decide +kernel
theorem pd__Ljava_lang_Object__Z : parseMethodDescriptor "(Ljava/lang/Object;)Z" = some ⟨[(.object "java/lang/Object")], some .boolean⟩ := by decide +kernel
def QC1 (Z : State) (a : Addr) (ti : Addr) (ti_k : ClassId) (va : Addr) (va_k : ClassId) (kB : Nat) (aE : Addr) (kE : ClassId) (aC : Addr) (kC : ClassId) (lC : List Value) (i0 : Addr) (i1 : Addr) (i2 : Addr) (tu0 : Int64) (vu0 : Int64) (h0 : Heap) (n0 : Nat) (v : Option Value) (h : Heap) (L : List Loc) : Prop := ∃ (di : Addr) (di_k : ClassId) (dl : Addr) (dl_k : ClassId) (dr : Addr) (dr_k : ClassId), v = none ∧ Fr n0 L ∧ Keep h0 h [a] ∧ n0 ≤ di ∧ h0.size ≤ di ∧ n0 ≤ dl ∧ h0.size ≤ dl ∧ n0 ≤ dr ∧ h0.size ≤ dr ∧ Exa Z h a cF ∧ Fld Z h a cF "instants" "[D" (.ref di) ∧ Fld Z h a cF "lefts" "[D" (.ref dl) ∧ Fld Z h a cF "rights" "[D" (.ref dr) ∧ Arv Z h di di_k .double (1 : Int32) [(dV tu0)] dZ ∧ Arv Z h dl dl_k .double (1 : Int32) [dZ] dZ ∧ Arv Z h dr dr_k .double (1 : Int32) [(dV vu0)] dZ
set_option maxRecDepth 65536 in
set_option maxHeartbeats 40000000 in
theorem rmC1 (l : Launch) (Z : State) (a0 : Array Value) (hw : HW a0 Z) (ws : List Jvm.Cond) (a : Addr) (ti : Addr) (ti_k : ClassId) (va : Addr) (va_k : ClassId) (kB : Nat) (aE : Addr) (kE : ClassId) (aC : Addr) (kC : ClassId) (lC : List Value) (i0 : Addr) (i1 : Addr) (i2 : Addr) (tu0 : Int64) (vu0 : Int64) (h0 : Heap) (n0 : Nat) (Z0 : n0 ≤ h0.size) (E_a : Exa Z h0 a cF) (F_times : Fld Z h0 a cF "times" "[D" .null) (F_values : Fld Z h0 a cF "values" "[D" .null) (F_instants : Fld Z h0 a cF "instants" "[D" .null) (F_lefts : Fld Z h0 a cF "lefts" "[D" .null) (F_rights : Fld Z h0 a cF "rights" "[D" .null) (V_ti : Arv Z h0 ti ti_k .double (1 : Int32) [(dV tu0)] dZ) (E_ti : Exa Z h0 ti "[D") (V_va : Arv Z h0 va va_k .double (1 : Int32) [(dV vu0)] dZ) (E_va : Exa Z h0 va "[D") (EN : EnvJ Z kB h0 aE kE aC kC lC i0 i1 i2) (hkB : kB ≤ h0.size) (k_a : kB ≤ a) (g_a : n0 ≤ a) (ne_ti_a : ti ≠ a) (ne_va_a : va ≠ a) (b_tu0 : B53 tu0) (b_vu0 : B53 vu0) (ov0 : ¬ vu0 < (0 : Int64)) :
    MetFree l M18 (head1 (Jvm.Cond.code M18 prog_37_method_1_code 7 none :: ws) R5_7_28_108) (fun ar UU => ar = #[(.ref a), (.ref ti), (.ref va)] ∧ Z.Warmed39 UU.vm ∧ UU.heap = h0) (fun _ _ _ _ _ => True) (fun _ UU oo UU' => ∃ vv LL, oo = .returned vv ∧ QC1 Z a ti ti_k va va_k kB aE kE aC kC lC i0 i1 i2 tu0 vu0 h0 n0 vv UU'.heap LL ∧ FrameEnd UU oo UU' LL R5_7_28_108.cells R5_7_28_108.slots) := by
 refine MetFree.of_bodySF (plainFor_of_name pn_1) hisR ?_
 intro p e s m args below meth c s₁ Bd hml0 hP hK
 obtain ⟨rfl, hZ, hh⟩ := hP
 have hx := Bd.exec
 have hby := Bd.bytes
 have hml : c.maxLocals = 7 := hml0
 have hown : s.vm.findClass "com/example/narrow_bound/narrowbound/witness/CumulativeFunction" = some m.cls := findClass_of_methodNamed Bd.named
 have hnm := (name_of_methodNamed Bd.named Bd.method).1
 have X0 : Stand p l e R5_7_28_108 s m #[(.ref a), (.ref ti), (.ref va)] below meth c s₁ [] 0 0 := Stand.of_body Bd
 have e0 : s₁.heap = h0 := by rw [← hh, Bd.state]; rfl
 have N0 := Fr.nil n0
 have KC0 : Keep h0 h0 [a] := Keep.refl h0 [a]
 have pre0 : ∀ tgt, Steps p.tables e below (s₁.setTop (mkF m 0 #[.val (.ref a), .val (.ref ti), .val (.ref va), .unset, .unset, .unset, .unset] [])) tgt → Steps p.tables e below (s₁.setTop (entryFrame m #[(.ref a), (.ref ti), (.ref va)] 7)) tgt := fun tgt kk => castTop (ef1_RRR m (a) (ti) (va)) kk
 generalize hI : s₁.setTop (entryFrame m #[(.ref a), (.ref ti), (.ref va)] 7) = I0 at pre0 ⊢
 obtain ⟨T15, lo15, Hc15, al6, di13, dl13, dr13, di_k13, dl_k13, dr_k13, X15, N15, e15, Zs15, KC15, P13_0_c15, P13_1_c15, P13_2_c15, P13_3_c15, P13_4_c15, P13_5_c15, P13_6_c15, gnc15_1, gnc15_3, gnc15_4, gnc15_5, szc15_0, szc15_2, szc15_3, szc15_4, nesc15_2, nesc15_3, nesc15_4, pre15⟩ : ∃ (T15 : State) (lo15 : List Loc) (Hc15 : Heap) (al6 : Addr) (di13 : Addr) (dl13 : Addr) (dr13 : Addr) (di_k13 : ClassId) (dl_k13 : ClassId) (dr_k13 : ClassId), Stand p l e R5_7_28_108 s m #[(.ref a), (.ref ti), (.ref va)] below meth c T15 lo15 7 22 ∧ Fr n0 lo15 ∧ T15.heap = Hc15 ∧ n0 ≤ Hc15.size ∧ Keep h0 Hc15 [a] ∧ Exa Z Hc15 a cF ∧ Fld Z Hc15 a cF "instants" "[D" (.ref di13) ∧ Fld Z Hc15 a cF "lefts" "[D" (.ref dl13) ∧ Fld Z Hc15 a cF "rights" "[D" (.ref dr13) ∧ Arv Z Hc15 di13 di_k13 .double (1 : Int32) [(dV tu0)] dZ ∧ Arv Z Hc15 dl13 dl_k13 .double (1 : Int32) [dZ] dZ ∧ Arv Z Hc15 dr13 dr_k13 .double (1 : Int32) [(dV vu0)] dZ ∧ n0 ≤ al6 ∧ n0 ≤ di13 ∧ n0 ≤ dl13 ∧ n0 ≤ dr13 ∧ h0.size ≤ al6 ∧ h0.size ≤ di13 ∧ h0.size ≤ dl13 ∧ h0.size ≤ dr13 ∧ a ≠ al6 ∧ ti ≠ al6 ∧ va ≠ al6 ∧ Pr p e below I0 T15 (mkF m 409 #[.val (.ref a), .val (.ref ti), .val (.ref va), .val (.ref al6), .val (.int (1 : Int32)), .val (.int (0 : Int32)), .val (.int ((1 : Int32) - (1 : Int32)))] []) := by
  obtain ⟨T1, X1, e1, st1⟩ := initO X0 hx hZ hown (tw7 hw) (tw8 hw) (tw9 hw) e0 (g := (mkF m 1 #[.val (.ref a), .val (.ref ti), .val (.ref va), .unset, .unset, .unset, .unset] [(.ref a)])) rfl (by rw [hml]; rfl) rfl (hb hby d1_1) (by decide) (W := 0) (own_mr rfl) (by decide)
  obtain ⟨cl2, Ar2, aq2, aS2, aN2, aH2, aG2⟩ := id V_ti
  obtain ⟨cl3, Ar3, aq3, aS3, aN3, aH3, aG3⟩ := id V_va
  obtain ⟨T4, lo4, X4, N4, e4, st4⟩ := sV0 hw hx hby hml hZ hown hnm a ti ti_k va va_k ((1 : Int32)) ([(dV tu0)]) ([(dV vu0)]) tu0 vu0 X1 N0 e1 Z0 KC0 V_ti V_va (by decide) rfl rfl b_tu0 b_vu0 ov0
  obtain ⟨cl5, Ar5, aq5, aS5, aN5, aH5, aG5⟩ := id V_ti
  obtain ⟨T6, lo6, H6, al6, X6, N6, e6, Zs6, KC6, P6_0, P6_1, P6_2, P6_3, P6_4, P6_5, P6_6, P6_7, P6_8, P6_9, P6_10, o6_0, o6_1, o6_2, o6_3, o6_4, st6⟩ := sA hw hx hby hml hZ hown hnm a ti ti_k va va_k ((1 : Int32)) ([(dV tu0)]) ([(dV vu0)]) ((1 : Int32)) kB aE kE aC kC lC i0 i1 i2 X4 N4 e4 Z0 KC0 E_a F_times F_values F_instants F_lefts F_rights V_ti E_ti V_va E_va EN hkB k_a g_a ne_ti_a ne_va_a (by decide)
  obtain ⟨cl7, Ar7, aq7, aS7, aN7, aH7, aG7⟩ := id P6_4
  obtain ⟨_, _, ⟨T8, L8, k8, n8⟩, -, X8, ⟨Lc8, hQ8, l8, y8, z8⟩, st8⟩ := Jvm.LawKit.callS X6 hx (y := M10) hown (mvT hZ (tw82 hw)) (mvT hZ (tw83 hw)) (mvT hZ (tw84 hw)) (mvT hZ (tw85 hw)) (by decide) (backOf (W := 1) (rmV0 l Z a0 hw [] aC kC lC i0 H6 n0 Zs6 P6_6.sH P6_6.sC P6_6.vC P6_6.t0) hZ (tw85 hw) (tw84 hw) (by decide) (by decide)) (g := (mkF m 240 #[.val (.ref a), .val (.ref ti), .val (.ref va), .val (.ref al6), .val (.int (0 : Int32)), .unset, .unset] [(.int (0 : Int32)), (.ref al6)])) rfl (by rw [hml]; rfl) (argsL := [(.int (0 : Int32))]) (rest := [(.ref al6)]) (lenOf pd__I_Ljava_lang_Integer_ rfl) rfl (own_mr rfl) (hb hby d1_240) (fun _ _ => ⟨rfl, e6, (by decide : 3 + 0 ≤ _), (by decide : 9 + 0 ≤ _)⟩)
  dsimp only [Pt.U, Pt.locs, Pt.cells, Pt.slots] at X8 l8 y8 z8 st8 hQ8
  rw [l8, y8, z8] at X8
  obtain ⟨rfl, N8q, hh8⟩ := hQ8
  have N8 := Fr.app N6 N8q
  have lt9_0 := P6_0.lt
  obtain ⟨cq10, kq10, q10a, q10b, q10c⟩ := isOf hZ hh8 P6_7
  obtain ⟨_, _, ⟨T10, L10, k10, n10⟩, -, X10, ⟨Lc10, hQ10, l10, y10, z10⟩, st10⟩ := X8.interfaceBack hx (xi := M19) (y := M9) hown (mvT hZ (tw89 hw)) (mvT hZ (tw90 hw)) (mvT hZ (tw91 hw)) (mvT hZ (tw92 hw)) (mvT hZ (tw93 hw)) (mvT hZ (tw94 hw)) (mvT hZ (tw95 hw)) (mvT hZ (tw54 hw)) (by decide) (backOf (W := 0) (rmA0 l Z a0 hw [] al6 aE kE i0 H6 n0 Zs6 P6_7 P6_8 P6_9 P6_10 P6_6.sD P6_6.vE o6_0 (own_ne2 P6_6.bE (Nat.le_trans hkB o6_1)) P6_6.e0) hZ (tw96 hw) (tw25 hw) (by decide) (by decide)) q10a q10b q10c (g := (mkF m 243 #[.val (.ref a), .val (.ref ti), .val (.ref va), .val (.ref al6), .val (.int (0 : Int32)), .unset, .unset] [(.ref i0), (.ref al6)])) rfl (by rw [hml]; rfl) (Steps.refl _) (argsL := [(.ref i0)]) (rest := []) (lenOf pd__Ljava_lang_Object__Z rfl) rfl (own_mr rfl) (hb hby d1_243) (fun _ _ => ⟨rfl, hh8, (by decide : 3 + 1 ≤ _), (by decide : 9 + 10 ≤ _)⟩)
  dsimp only [Pt.U, Pt.locs, Pt.cells, Pt.slots] at X10 l10 y10 z10 st10 hQ10
  rw [l10, y10, z10] at X10
  obtain ⟨b10, b_k10, rfl, N10q, K10, gb10, sb10, Ov_b_k10, -, P10_1, P10_2, P10_3⟩ := hQ10
  have N10 := Fr.app N8 N10q
  have pl25_al6 := own_plain_Exa P6_7
  replace P6_0 := P6_0.keep K10
  replace P6_1 := P6_1.keep K10 (ninS o6_2 nin0)
  replace P6_2 := P6_2.keep K10 (ninS o6_2 nin0)
  replace P6_3 := P6_3.keep K10 (ninS o6_2 nin0)
  replace P6_4 := P6_4.keep K10 (ninS o6_3 nin0)
  replace P6_5 := P6_5.keep K10 (ninS o6_4 nin0)
  replace P6_6 := P6_6.keep K10 (allS (Nat.le_trans hkB o6_1) all0) (allS pl25_al6 all0)
  replace P6_7 := P6_7.keep K10
  have Zs11 := Nat.le_trans Zs6 K10.1
  have KC11 := KC6.trans K10 (allS (Or.inr o6_1) all0)
  have ne_a_b10 := own_ne2 lt9_0 sb10
  have szb10 := Nat.le_trans KC6.1 sb10
  obtain ⟨cl12, Ar12, aq12, aS12, aN12, aH12, aG12⟩ := id P6_4
  obtain ⟨T13, lo13, H13, di13, di_k13, dl13, dl_k13, dr13, dr_k13, X13, N13, e13, Zs13, KC13, P13_0, P13_1, P13_2, P13_3, P13_4, P13_5, P13_6, o13_0, o13_1, o13_2, o13_3, o13_4, o13_5, st13⟩ := sC1 hw hx hby hml hZ hown hnm a ti ti_k va va_k ((1 : Int32)) ([(dV tu0)]) ([(dV vu0)]) ((1 : Int32)) al6 b10 b_k10 i0 ((0 : Int32)) tu0 vu0 X10 N10 rfl Zs11 KC11 P6_0 P6_1 P6_2 P6_3 P6_4 P6_5 P6_7 P10_1 P10_2 P10_3 P6_6.e0 P6_6.f0 g_a ne_ti_a ne_va_a (Ne.symm o6_2) (Ne.symm ne_a_b10) (own_ne2 P6_6.b0 k_a) (by decide) rfl (by decide) rfl
  have pre14 : Pr p e below I0 T13 (mkF m 409 #[.val (.ref a), .val (.ref ti), .val (.ref va), .val (.ref al6), .val (.int (1 : Int32)), .val (.int (0 : Int32)), .val (.int ((1 : Int32) - (1 : Int32)))] []) := by
   intro tg kk
   refine pre0 tg ?_
   refine XS.aloadN X0.here hx rfl (hb hby d1_0) rfl rfl ?_
   refine st1 _ ?_
   refine XS.aloadN X1.here hx rfl (hb hby d1_4) rfl rfl ?_
   refine X1.arraylength hx (by rw [e1]; exact Ar2.1) (State.isArrayOf_alike hZ.alike Ar2.2.1) (g := (mkF m 5 #[.val (.ref a), .val (.ref ti), .val (.ref va), .unset, .unset, .unset, .unset] [(.ref ti)])) rfl rfl (hb hby d1_5) _ ?_
   rw [len_of aS2 aN2]
   refine XS.aloadN X1.here hx rfl (hb hby d1_6) rfl rfl ?_
   refine X1.arraylength hx (by rw [e1]; exact Ar3.1) (State.isArrayOf_alike hZ.alike Ar3.2.1) (g := (mkF m 7 #[.val (.ref a), .val (.ref ti), .val (.ref va), .unset, .unset, .unset, .unset] [(.ref va), (.int (1 : Int32))])) rfl rfl (hb hby d1_7) _ ?_
   rw [len_of aS3 aN3]
   refine XS.icmpYes X1.here hx rfl (pc0 := 8) (pc' := 28) rfl (hb hby d1_8) rfl (XT.ii_eq_t (by decide)) (by decide) (by decide) ?_
   refine XS.iconst X1.here hx rfl (hb hby d1_28) ?_
   refine XS.istoreN X1.here hx rfl (hb hby d1_29) rfl (l' := #[.val (.ref a), .val (.ref ti), .val (.ref va), .val (.int (0 : Int32)), .unset, .unset, .unset]) rfl ?_
   refine st4 _ ?_
   refine XS.iloadN X4.here hx rfl (hb hby d1_30) rfl ?_
   refine XS.aloadN X4.here hx rfl (hb hby d1_31) rfl rfl ?_
   refine X4.arraylength hx (by rw [e4]; exact Ar5.1) (State.isArrayOf_alike hZ.alike Ar5.2.1) (g := (mkF m 32 #[.val (.ref a), .val (.ref ti), .val (.ref va), .val (.int (1 : Int32)), .unset, .unset, .unset] [(.ref ti), (.int (1 : Int32))])) rfl rfl (hb hby d1_32) _ ?_
   rw [len_of aS5 aN5]
   refine XS.icmpYes X4.here hx rfl (pc0 := 33) (pc' := 178) rfl (hb hby d1_33) rfl (XT.ii_ge_t (by decide)) (by decide) (by decide) ?_
   refine st6 _ ?_
   refine XS.iload X6.here hx rfl (hb hby d1_211) rfl ?_
   refine XS.aloadN X6.here hx rfl (hb hby d1_213) rfl rfl ?_
   refine X6.arraylength hx (by rw [e6]; exact Ar7.1) (State.isArrayOf_alike hZ.alike Ar7.2.1) (g := (mkF m 214 #[.val (.ref a), .val (.ref ti), .val (.ref va), .val (.ref al6), .val (.int (0 : Int32)), .unset, .unset] [(.ref ti), (.int (0 : Int32))])) rfl rfl (hb hby d1_214) _ ?_
   rw [len_of aS7 aN7]
   refine XS.icmpNo X6.here hx rfl (hb hby d1_215) rfl (XT.ii_ge_f (by decide)) ?_
   refine XS.iload X6.here hx rfl (hb hby d1_218) rfl ?_
   refine XS.ifYes X6.here hx rfl (pc0 := 220) (pc' := 237) rfl (hb hby d1_220) rfl (XT.i0_eq_t (by decide)) (by decide) (by decide) ?_
   refine XS.aloadN X6.here hx rfl (hb hby d1_237) rfl rfl ?_
   refine XS.iload X6.here hx rfl (hb hby d1_238) rfl ?_
   refine st8 _ ?_
   refine st10.trans ?_
   refine XS.pop X10.here hx rfl (hb hby d1_248) rfl rfl ?_
   refine XS.iinc X10.here hx rfl (hb hby d1_249) rfl (l' := #[.val (.ref a), .val (.ref ti), .val (.ref va), .val (.ref al6), .val (.int (1 : Int32)), .unset, .unset]) rfl ?_
   refine XS.goto X10.here hx rfl (pc0 := 252) (pc' := 211) rfl (hb hby d1_252) (by decide) (by decide) ?_
   refine XS.iload X10.here hx rfl (hb hby d1_211) rfl ?_
   refine XS.aloadN X10.here hx rfl (hb hby d1_213) rfl rfl ?_
   refine X10.arraylength hx Ar12.1 (State.isArrayOf_alike hZ.alike Ar12.2.1) (g := (mkF m 214 #[.val (.ref a), .val (.ref ti), .val (.ref va), .val (.ref al6), .val (.int (1 : Int32)), .unset, .unset] [(.ref ti), (.int (1 : Int32))])) rfl rfl (hb hby d1_214) _ ?_
   rw [len_of aS12 aN12]
   refine XS.icmpYes X10.here hx rfl (pc0 := 215) (pc' := 255) rfl (hb hby d1_215) rfl (XT.ii_ge_t (by decide)) (by decide) (by decide) ?_
   refine st13 _ ?_
   exact kk
  exact ⟨T13, _, H13, al6, di13, dl13, dr13, di_k13, dl_k13, dr_k13, X13, N13, e13, Zs13, KC13, P13_0, P13_1, P13_2, P13_3, P13_4, P13_5, P13_6, o6_0, o13_0, o13_2, o13_4, o6_1, o13_1, o13_3, o13_5, o6_2, o6_3, o6_4, pre14⟩
 clear pre0 X0 N0 e0 KC0 Z0 E_a F_times F_values F_instants F_lefts F_rights V_ti E_ti V_va E_va EN
 obtain ⟨fs, hr, hrun, hended, hW, hsame⟩ := X15.leave (v := none) (fun _ => rfl)
 refine ⟨_, _, pre15 _ ?_, hrun, hended, _, _, rfl, ?_, ⟨_, rfl⟩, hW, hsame.mono (by decide) (by decide)⟩
 ·skip
  exact X15.returnOut hx Bd.returns (hb hby d1_409) hr
 ·show QC1 Z a ti ti_k va va_k kB aE kE aC kC lC i0 i1 i2 tu0 vu0 h0 n0 _ T15.heap _
  rw [e15]
  exact ⟨di13, di_k13, dl13, dl_k13, dr13, dr_k13, rfl, N15, KC15, gnc15_3, szc15_2, gnc15_4, szc15_3, gnc15_5, szc15_4, P13_0_c15, P13_1_c15, P13_2_c15, P13_3_c15, P13_4_c15, P13_5_c15, P13_6_c15⟩
theorem d1_223 : decode cp_37_1 223 = .ok (.aload_n 1, 1) := by decide +kernel
theorem d1_224 : decode cp_37_1 224 = .ok (.iload 4, 2) := by decide +kernel
theorem d1_226 : decode cp_37_1 226 = .ok (.daload, 1) := by decide +kernel
theorem d1_227 : decode cp_37_1 227 = .ok (.aload_n 1, 1) := by decide +kernel
theorem d1_228 : decode cp_37_1 228 = .ok (.iload 4, 2) := by decide +kernel
theorem d1_230 : decode cp_37_1 230 = .ok (.iconst 1, 1) := by decide +kernel
theorem d1_231 : decode cp_37_1 231 = .ok (.isub, 1) := by decide +kernel
theorem d1_232 : decode cp_37_1 232 = .ok (.daload, 1) := by decide +kernel
theorem d1_233 : decode cp_37_1 233 = .ok (.dcmp .l, 1) := by decide +kernel
theorem d1_234 : decode cp_37_1 234 = .ok (.ifCond .le 15, 3) := by decide +kernel
def QC2t (Z : State) (a : Addr) (ti : Addr) (ti_k : ClassId) (va : Addr) (va_k : ClassId) (kB : Nat) (aE : Addr) (kE : ClassId) (aC : Addr) (kC : ClassId) (lC : List Value) (i0 : Addr) (i1 : Addr) (i2 : Addr) (tu0 : Int64) (tu1 : Int64) (vu0 : Int64) (vu1 : Int64) (h0 : Heap) (n0 : Nat) (v : Option Value) (h : Heap) (L : List Loc) : Prop := ∃ (di : Addr) (di_k : ClassId) (dl : Addr) (dl_k : ClassId) (dr : Addr) (dr_k : ClassId), v = none ∧ Fr n0 L ∧ Keep h0 h [a] ∧ n0 ≤ di ∧ h0.size ≤ di ∧ n0 ≤ dl ∧ h0.size ≤ dl ∧ n0 ≤ dr ∧ h0.size ≤ dr ∧ Exa Z h a cF ∧ Fld Z h a cF "instants" "[D" (.ref di) ∧ Fld Z h a cF "lefts" "[D" (.ref dl) ∧ Fld Z h a cF "rights" "[D" (.ref dr) ∧ Arv Z h di di_k .double (2 : Int32) [(dV tu0), (dV tu1)] dZ ∧ Arv Z h dl dl_k .double (2 : Int32) [dZ, (dV vu1)] dZ ∧ Arv Z h dr dr_k .double (2 : Int32) [(dV vu0), (dV vu1)] dZ
set_option maxRecDepth 65536 in
set_option maxHeartbeats 40000000 in
theorem rmC2t (l : Launch) (Z : State) (a0 : Array Value) (hw : HW a0 Z) (ws : List Jvm.Cond) (a : Addr) (ti : Addr) (ti_k : ClassId) (va : Addr) (va_k : ClassId) (kB : Nat) (aE : Addr) (kE : ClassId) (aC : Addr) (kC : ClassId) (lC : List Value) (i0 : Addr) (i1 : Addr) (i2 : Addr) (tu0 : Int64) (tu1 : Int64) (vu0 : Int64) (vu1 : Int64) (h0 : Heap) (n0 : Nat) (Z0 : n0 ≤ h0.size) (E_a : Exa Z h0 a cF) (F_times : Fld Z h0 a cF "times" "[D" .null) (F_values : Fld Z h0 a cF "values" "[D" .null) (F_instants : Fld Z h0 a cF "instants" "[D" .null) (F_lefts : Fld Z h0 a cF "lefts" "[D" .null) (F_rights : Fld Z h0 a cF "rights" "[D" .null) (V_ti : Arv Z h0 ti ti_k .double (2 : Int32) [(dV tu0), (dV tu1)] dZ) (E_ti : Exa Z h0 ti "[D") (V_va : Arv Z h0 va va_k .double (2 : Int32) [(dV vu0), (dV vu1)] dZ) (E_va : Exa Z h0 va "[D") (EN : EnvJ Z kB h0 aE kE aC kC lC i0 i1 i2) (hkB : kB ≤ h0.size) (k_a : kB ≤ a) (g_a : n0 ≤ a) (ne_ti_a : ti ≠ a) (ne_va_a : va ≠ a) (b_tu0 : B53 tu0) (b_tu1 : B53 tu1) (b_vu0 : B53 vu0) (b_vu1 : B53 vu1) (ov0 : ¬ vu0 < (0 : Int64)) (ot1 : ¬ tu1 < tu0) (ov1 : ¬ vu1 < vu0) (ps1 : tu0 < tu1) :
    MetFree l M18 (head1 (Jvm.Cond.code M18 prog_37_method_1_code 7 none :: ws) R5_7_28_108) (fun ar UU => ar = #[(.ref a), (.ref ti), (.ref va)] ∧ Z.Warmed39 UU.vm ∧ UU.heap = h0) (fun _ _ _ _ _ => True) (fun _ UU oo UU' => ∃ vv LL, oo = .returned vv ∧ QC2t Z a ti ti_k va va_k kB aE kE aC kC lC i0 i1 i2 tu0 tu1 vu0 vu1 h0 n0 vv UU'.heap LL ∧ FrameEnd UU oo UU' LL R5_7_28_108.cells R5_7_28_108.slots) := by
 refine MetFree.of_bodySF (plainFor_of_name pn_1) hisR ?_
 intro p e s m args below meth c s₁ Bd hml0 hP hK
 obtain ⟨rfl, hZ, hh⟩ := hP
 have hx := Bd.exec
 have hby := Bd.bytes
 have hml : c.maxLocals = 7 := hml0
 have hown : s.vm.findClass "com/example/narrow_bound/narrowbound/witness/CumulativeFunction" = some m.cls := findClass_of_methodNamed Bd.named
 have hnm := (name_of_methodNamed Bd.named Bd.method).1
 have X0 : Stand p l e R5_7_28_108 s m #[(.ref a), (.ref ti), (.ref va)] below meth c s₁ [] 0 0 := Stand.of_body Bd
 have e0 : s₁.heap = h0 := by rw [← hh, Bd.state]; rfl
 have N0 := Fr.nil n0
 have KC0 : Keep h0 h0 [a] := Keep.refl h0 [a]
 have pre0 : ∀ tgt, Steps p.tables e below (s₁.setTop (mkF m 0 #[.val (.ref a), .val (.ref ti), .val (.ref va), .unset, .unset, .unset, .unset] [])) tgt → Steps p.tables e below (s₁.setTop (entryFrame m #[(.ref a), (.ref ti), (.ref va)] 7)) tgt := fun tgt kk => castTop (ef1_RRR m (a) (ti) (va)) kk
 generalize hI : s₁.setTop (entryFrame m #[(.ref a), (.ref ti), (.ref va)] 7) = I0 at pre0 ⊢
 obtain ⟨T24, lo24, Hc24, al7, b11, b_k11, X24, N24, e24, Zs24, KC24, P7_0_c24, P7_1_c24, P7_2_c24, P7_3_c24, P7_4_c24, P7_5_c24, P7_6_c24, P7_7_c24, P21_1_c24, P21_2_c24, P21_3_c24, Ovc24_b_k11, gnc24_1, gnc24_2, szc24_0, szc24_1, nesc24_2, nesc24_3, nesc24_4, nesc24_5, nesc24_6, nesc24_7, nesc24_8, pre24⟩ : ∃ (T24 : State) (lo24 : List Loc) (Hc24 : Heap) (al7 : Addr) (b11 : Addr) (b_k11 : ClassId), Stand p l e R5_7_28_108 s m #[(.ref a), (.ref ti), (.ref va)] below meth c T24 lo24 4 19 ∧ Fr n0 lo24 ∧ T24.heap = Hc24 ∧ n0 ≤ Hc24.size ∧ Keep h0 Hc24 [a] ∧ Exa Z Hc24 a cF ∧ Fld Z Hc24 a cF "instants" "[D" .null ∧ Fld Z Hc24 a cF "lefts" "[D" .null ∧ Fld Z Hc24 a cF "rights" "[D" .null ∧ Arv Z Hc24 ti ti_k .double (2 : Int32) [(dV tu0), (dV tu1)] dZ ∧ Arv Z Hc24 va va_k .double (2 : Int32) [(dV vu0), (dV vu1)] dZ ∧ EnvJ Z kB Hc24 aE kE aC kC lC i0 i1 i2 ∧ Exa Z Hc24 al7 aL ∧ Fld Z Hc24 al7 aL "size" "I" (.int (2 : Int32)) ∧ Fld Z Hc24 al7 aL "elementData" lO (.ref b11) ∧ Arv Z Hc24 b11 b_k11 (.object "java/lang/Object") (10 : Int32) [(.ref i0), (.ref i1), .null, .null, .null, .null, .null, .null, .null, .null] .null ∧ Ovr Z b_k11 "java/lang/Object" ∧ n0 ≤ al7 ∧ n0 ≤ b11 ∧ h0.size ≤ al7 ∧ h0.size ≤ b11 ∧ a ≠ al7 ∧ ti ≠ al7 ∧ va ≠ al7 ∧ a ≠ b11 ∧ ti ≠ b11 ∧ va ≠ b11 ∧ al7 ≠ b11 ∧ Pr p e below I0 T24 (mkF m 248 #[.val (.ref a), .val (.ref ti), .val (.ref va), .val (.ref al7), .val (.int (1 : Int32)), .unset, .unset] [(.int (1 : Int32))]) := by
  obtain ⟨T1, X1, e1, st1⟩ := initO X0 hx hZ hown (tw7 hw) (tw8 hw) (tw9 hw) e0 (g := (mkF m 1 #[.val (.ref a), .val (.ref ti), .val (.ref va), .unset, .unset, .unset, .unset] [(.ref a)])) rfl (by rw [hml]; rfl) rfl (hb hby d1_1) (by decide) (W := 0) (own_mr rfl) (by decide)
  obtain ⟨cl2, Ar2, aq2, aS2, aN2, aH2, aG2⟩ := id V_ti
  obtain ⟨cl3, Ar3, aq3, aS3, aN3, aH3, aG3⟩ := id V_va
  obtain ⟨T4, lo4, X4, N4, e4, st4⟩ := sV0 hw hx hby hml hZ hown hnm a ti ti_k va va_k ((2 : Int32)) ([(dV tu0), (dV tu1)]) ([(dV vu0), (dV vu1)]) tu0 vu0 X1 N0 e1 Z0 KC0 V_ti V_va (by decide) rfl rfl b_tu0 b_vu0 ov0
  obtain ⟨T5, lo5, X5, N5, e5, st5⟩ := sV1 hw hx hby hml hZ hown hnm a ti ti_k va va_k ((2 : Int32)) ([(dV tu0), (dV tu1)]) ([(dV vu0), (dV vu1)]) ((1 : Int32)) ((2 : Int32)) tu0 tu1 vu0 vu1 X4 N4 e4 Z0 KC0 V_ti V_va (by decide) (by decide) (by decide) (by decide) (by decide) rfl rfl rfl rfl b_tu0 b_tu1 b_vu0 b_vu1 ot1 ov1
  obtain ⟨cl6, Ar6, aq6, aS6, aN6, aH6, aG6⟩ := id V_ti
  obtain ⟨T7, lo7, H7, al7, X7, N7, e7, Zs7, KC7, P7_0, P7_1, P7_2, P7_3, P7_4, P7_5, P7_6, P7_7, P7_8, P7_9, P7_10, o7_0, o7_1, o7_2, o7_3, o7_4, st7⟩ := sA hw hx hby hml hZ hown hnm a ti ti_k va va_k ((2 : Int32)) ([(dV tu0), (dV tu1)]) ([(dV vu0), (dV vu1)]) ((2 : Int32)) kB aE kE aC kC lC i0 i1 i2 X5 N5 e5 Z0 KC0 E_a F_times F_values F_instants F_lefts F_rights V_ti E_ti V_va E_va EN hkB k_a g_a ne_ti_a ne_va_a (by decide)
  obtain ⟨cl8, Ar8, aq8, aS8, aN8, aH8, aG8⟩ := id P7_4
  obtain ⟨_, _, ⟨T9, L9, k9, n9⟩, -, X9, ⟨Lc9, hQ9, l9, y9, z9⟩, st9⟩ := Jvm.LawKit.callS X7 hx (y := M10) hown (mvT hZ (tw82 hw)) (mvT hZ (tw83 hw)) (mvT hZ (tw84 hw)) (mvT hZ (tw85 hw)) (by decide) (backOf (W := 1) (rmV0 l Z a0 hw [] aC kC lC i0 H7 n0 Zs7 P7_6.sH P7_6.sC P7_6.vC P7_6.t0) hZ (tw85 hw) (tw84 hw) (by decide) (by decide)) (g := (mkF m 240 #[.val (.ref a), .val (.ref ti), .val (.ref va), .val (.ref al7), .val (.int (0 : Int32)), .unset, .unset] [(.int (0 : Int32)), (.ref al7)])) rfl (by rw [hml]; rfl) (argsL := [(.int (0 : Int32))]) (rest := [(.ref al7)]) (lenOf pd__I_Ljava_lang_Integer_ rfl) rfl (own_mr rfl) (hb hby d1_240) (fun _ _ => ⟨rfl, e7, (by decide : 3 + 0 ≤ _), (by decide : 9 + 0 ≤ _)⟩)
  dsimp only [Pt.U, Pt.locs, Pt.cells, Pt.slots] at X9 l9 y9 z9 st9 hQ9
  rw [l9, y9, z9] at X9
  obtain ⟨rfl, N9q, hh9⟩ := hQ9
  have N9 := Fr.app N7 N9q
  have lt10_0 := P7_0.lt
  have lt10_1 := P7_4.lt
  have lt10_2 := P7_5.lt
  have lt10_3 := P7_7.lt
  obtain ⟨cq11, kq11, q11a, q11b, q11c⟩ := isOf hZ hh9 P7_7
  obtain ⟨_, _, ⟨T11, L11, k11, n11⟩, -, X11, ⟨Lc11, hQ11, l11, y11, z11⟩, st11⟩ := X9.interfaceBack hx (xi := M19) (y := M9) hown (mvT hZ (tw89 hw)) (mvT hZ (tw90 hw)) (mvT hZ (tw91 hw)) (mvT hZ (tw92 hw)) (mvT hZ (tw93 hw)) (mvT hZ (tw94 hw)) (mvT hZ (tw95 hw)) (mvT hZ (tw54 hw)) (by decide) (backOf (W := 0) (rmA0 l Z a0 hw [] al7 aE kE i0 H7 n0 Zs7 P7_7 P7_8 P7_9 P7_10 P7_6.sD P7_6.vE o7_0 (own_ne2 P7_6.bE (Nat.le_trans hkB o7_1)) P7_6.e0) hZ (tw96 hw) (tw25 hw) (by decide) (by decide)) q11a q11b q11c (g := (mkF m 243 #[.val (.ref a), .val (.ref ti), .val (.ref va), .val (.ref al7), .val (.int (0 : Int32)), .unset, .unset] [(.ref i0), (.ref al7)])) rfl (by rw [hml]; rfl) (Steps.refl _) (argsL := [(.ref i0)]) (rest := []) (lenOf pd__Ljava_lang_Object__Z rfl) rfl (own_mr rfl) (hb hby d1_243) (fun _ _ => ⟨rfl, hh9, (by decide : 3 + 1 ≤ _), (by decide : 9 + 10 ≤ _)⟩)
  dsimp only [Pt.U, Pt.locs, Pt.cells, Pt.slots] at X11 l11 y11 z11 st11 hQ11
  rw [l11, y11, z11] at X11
  obtain ⟨b11, b_k11, rfl, N11q, K11, gb11, sb11, Ov_b_k11, P11_0, P11_1, P11_2, P11_3⟩ := hQ11
  have N11 := Fr.app N9 N11q
  have pl26_al7 := own_plain_Exa P7_7
  replace P7_0 := P7_0.keep K11
  replace P7_1 := P7_1.keep K11 (ninS o7_2 nin0)
  replace P7_2 := P7_2.keep K11 (ninS o7_2 nin0)
  replace P7_3 := P7_3.keep K11 (ninS o7_2 nin0)
  replace P7_4 := P7_4.keep K11 (ninS o7_3 nin0)
  replace P7_5 := P7_5.keep K11 (ninS o7_4 nin0)
  replace P7_6 := P7_6.keep K11 (allS (Nat.le_trans hkB o7_1) all0) (allS pl26_al7 all0)
  replace P7_7 := P7_7.keep K11
  have Zs12 := Nat.le_trans Zs7 K11.1
  have KC12 := KC7.trans K11 (allS (Or.inr o7_1) all0)
  have ne_a_b11 := own_ne2 lt10_0 sb11
  have ne_ti_b11 := own_ne2 lt10_1 sb11
  have ne_va_b11 := own_ne2 lt10_2 sb11
  have ne_al7_b11 := own_ne2 lt10_3 sb11
  have szb11 := Nat.le_trans KC7.1 sb11
  obtain ⟨cl13, Ar13, aq13, aS13, aN13, aH13, aG13⟩ := id P7_4
  obtain ⟨cl14, Ar14, aq14, aS14, aN14, aH14, aG14⟩ := id P7_4
  have hin15 : ¬ ((1 : Int32) < 0 ∨ cl14.slots.size ≤ ((1 : Int32)).toNatClampNeg) := inb_of aS14 ⟨by decide, by decide⟩
  have hat15 : cl14.slots[((1 : Int32)).toNatClampNeg]? = some (dV tu1) := Has.at aH14 hin15 rfl
  obtain ⟨cl16, Ar16, aq16, aS16, aN16, aH16, aG16⟩ := id P7_4
  have hin17 : ¬ ((0 : Int32) < 0 ∨ cl16.slots.size ≤ ((0 : Int32)).toNatClampNeg) := inb_of aS16 ⟨by decide, by decide⟩
  have hat17 : cl16.slots[((0 : Int32)).toNatClampNeg]? = some (dV tu0) := Has.at aH16 hin17 rfl
  have hk18 : tu0 < tu1 := ps1
  obtain ⟨_, _, ⟨T19, L19, k19, n19⟩, -, X19, ⟨Lc19, hQ19, l19, y19, z19⟩, st19⟩ := Jvm.LawKit.callS X11 hx (y := M10) hown (mvT hZ (tw82 hw)) (mvT hZ (tw83 hw)) (mvT hZ (tw84 hw)) (mvT hZ (tw85 hw)) (by decide) (backOf (W := 1) (rmV1 l Z a0 hw [] aC kC lC i1 T11.heap n0 Zs12 P7_6.sH P7_6.sC P7_6.vC P7_6.t1) hZ (tw85 hw) (tw84 hw) (by decide) (by decide)) (g := (mkF m 240 #[.val (.ref a), .val (.ref ti), .val (.ref va), .val (.ref al7), .val (.int (1 : Int32)), .unset, .unset] [(.int (1 : Int32)), (.ref al7)])) rfl (by rw [hml]; rfl) (argsL := [(.int (1 : Int32))]) (rest := [(.ref al7)]) (lenOf pd__I_Ljava_lang_Integer_ rfl) rfl (own_mr rfl) (hb hby d1_240) (fun _ _ => ⟨rfl, rfl, (by decide : 4 + 0 ≤ _), (by decide : 19 + 0 ≤ _)⟩)
  dsimp only [Pt.U, Pt.locs, Pt.cells, Pt.slots] at X19 l19 y19 z19 st19 hQ19
  rw [l19, y19, z19] at X19
  obtain ⟨rfl, N19q, hh19⟩ := hQ19
  have N19 := Fr.app N11 N19q
  obtain ⟨cq21, kq21, q21a, q21b, q21c⟩ := isOf hZ hh19 P7_7
  obtain ⟨_, _, ⟨T21, L21, k21, n21⟩, -, X21, ⟨Lc21, hQ21, l21, y21, z21⟩, st21⟩ := X19.interfaceBack hx (xi := M19) (y := M9) hown (mvT hZ (tw89 hw)) (mvT hZ (tw90 hw)) (mvT hZ (tw91 hw)) (mvT hZ (tw92 hw)) (mvT hZ (tw93 hw)) (mvT hZ (tw94 hw)) (mvT hZ (tw95 hw)) (mvT hZ (tw54 hw)) (by decide) (backOf (W := 0) (rmA1 l Z a0 hw [] al7 b11 b_k11 i1 i0 T11.heap n0 Zs12 P7_7 P11_0 P11_1 P11_2 P11_3 Ov_b_k11 o7_0 gb11 (Ne.symm ne_al7_b11) P7_6.e1) hZ (tw96 hw) (tw25 hw) (by decide) (by decide)) q21a q21b q21c (g := (mkF m 243 #[.val (.ref a), .val (.ref ti), .val (.ref va), .val (.ref al7), .val (.int (1 : Int32)), .unset, .unset] [(.ref i1), (.ref al7)])) rfl (by rw [hml]; rfl) (Steps.refl _) (argsL := [(.ref i1)]) (rest := []) (lenOf pd__Ljava_lang_Object__Z rfl) rfl (own_mr rfl) (hb hby d1_243) (fun _ _ => ⟨rfl, hh19, (by decide : 4 + 0 ≤ _), (by decide : 19 + 0 ≤ _)⟩)
  dsimp only [Pt.U, Pt.locs, Pt.cells, Pt.slots] at X21 l21 y21 z21 st21 hQ21
  rw [l21, y21, z21] at X21
  obtain ⟨rfl, N21q, K21, -, P21_1, P21_2, P21_3⟩ := hQ21
  have N21 := Fr.app N19 N21q
  have pl49_al7 := own_plain_Exa P7_7
  have pl49_b11 := own_plain_Arv P11_3
  replace P7_0 := P7_0.keep K21
  replace P7_1 := P7_1.keep K21 (ninS o7_2 (ninS ne_a_b11 nin0))
  replace P7_2 := P7_2.keep K21 (ninS o7_2 (ninS ne_a_b11 nin0))
  replace P7_3 := P7_3.keep K21 (ninS o7_2 (ninS ne_a_b11 nin0))
  replace P7_4 := P7_4.keep K21 (ninS o7_3 (ninS ne_ti_b11 nin0))
  replace P7_5 := P7_5.keep K21 (ninS o7_4 (ninS ne_va_b11 nin0))
  replace P7_6 := P7_6.keep K21 (allS (Nat.le_trans hkB o7_1) (allS (Nat.le_trans hkB szb11) all0)) (allS pl49_al7 (allS pl49_b11 all0))
  replace P7_7 := P7_7.keep K21
  have Zs22 := Nat.le_trans Zs12 K21.1
  have KC22 := KC12.trans K21 (allS (Or.inr o7_1) (allS (Or.inr szb11) all0))
  have pre23 : Pr p e below I0 T21 (mkF m 248 #[.val (.ref a), .val (.ref ti), .val (.ref va), .val (.ref al7), .val (.int (1 : Int32)), .unset, .unset] [(.int (1 : Int32))]) := by
   intro tg kk
   refine pre0 tg ?_
   refine XS.aloadN X0.here hx rfl (hb hby d1_0) rfl rfl ?_
   refine st1 _ ?_
   refine XS.aloadN X1.here hx rfl (hb hby d1_4) rfl rfl ?_
   refine X1.arraylength hx (by rw [e1]; exact Ar2.1) (State.isArrayOf_alike hZ.alike Ar2.2.1) (g := (mkF m 5 #[.val (.ref a), .val (.ref ti), .val (.ref va), .unset, .unset, .unset, .unset] [(.ref ti)])) rfl rfl (hb hby d1_5) _ ?_
   rw [len_of aS2 aN2]
   refine XS.aloadN X1.here hx rfl (hb hby d1_6) rfl rfl ?_
   refine X1.arraylength hx (by rw [e1]; exact Ar3.1) (State.isArrayOf_alike hZ.alike Ar3.2.1) (g := (mkF m 7 #[.val (.ref a), .val (.ref ti), .val (.ref va), .unset, .unset, .unset, .unset] [(.ref va), (.int (2 : Int32))])) rfl rfl (hb hby d1_7) _ ?_
   rw [len_of aS3 aN3]
   refine XS.icmpYes X1.here hx rfl (pc0 := 8) (pc' := 28) rfl (hb hby d1_8) rfl (XT.ii_eq_t (by decide)) (by decide) (by decide) ?_
   refine XS.iconst X1.here hx rfl (hb hby d1_28) ?_
   refine XS.istoreN X1.here hx rfl (hb hby d1_29) rfl (l' := #[.val (.ref a), .val (.ref ti), .val (.ref va), .val (.int (0 : Int32)), .unset, .unset, .unset]) rfl ?_
   refine st4 _ ?_
   refine st5 _ ?_
   refine XS.iloadN X5.here hx rfl (hb hby d1_30) rfl ?_
   refine XS.aloadN X5.here hx rfl (hb hby d1_31) rfl rfl ?_
   refine X5.arraylength hx (by rw [e5]; exact Ar6.1) (State.isArrayOf_alike hZ.alike Ar6.2.1) (g := (mkF m 32 #[.val (.ref a), .val (.ref ti), .val (.ref va), .val (.int (2 : Int32)), .unset, .unset, .unset] [(.ref ti), (.int (2 : Int32))])) rfl rfl (hb hby d1_32) _ ?_
   rw [len_of aS6 aN6]
   refine XS.icmpYes X5.here hx rfl (pc0 := 33) (pc' := 178) rfl (hb hby d1_33) rfl (XT.ii_ge_t (by decide)) (by decide) (by decide) ?_
   refine st7 _ ?_
   refine XS.iload X7.here hx rfl (hb hby d1_211) rfl ?_
   refine XS.aloadN X7.here hx rfl (hb hby d1_213) rfl rfl ?_
   refine X7.arraylength hx (by rw [e7]; exact Ar8.1) (State.isArrayOf_alike hZ.alike Ar8.2.1) (g := (mkF m 214 #[.val (.ref a), .val (.ref ti), .val (.ref va), .val (.ref al7), .val (.int (0 : Int32)), .unset, .unset] [(.ref ti), (.int (0 : Int32))])) rfl rfl (hb hby d1_214) _ ?_
   rw [len_of aS8 aN8]
   refine XS.icmpNo X7.here hx rfl (hb hby d1_215) rfl (XT.ii_ge_f (by decide)) ?_
   refine XS.iload X7.here hx rfl (hb hby d1_218) rfl ?_
   refine XS.ifYes X7.here hx rfl (pc0 := 220) (pc' := 237) rfl (hb hby d1_220) rfl (XT.i0_eq_t (by decide)) (by decide) (by decide) ?_
   refine XS.aloadN X7.here hx rfl (hb hby d1_237) rfl rfl ?_
   refine XS.iload X7.here hx rfl (hb hby d1_238) rfl ?_
   refine st9 _ ?_
   refine st11.trans ?_
   refine XS.pop X11.here hx rfl (hb hby d1_248) rfl rfl ?_
   refine XS.iinc X11.here hx rfl (hb hby d1_249) rfl (l' := #[.val (.ref a), .val (.ref ti), .val (.ref va), .val (.ref al7), .val (.int (1 : Int32)), .unset, .unset]) rfl ?_
   refine XS.goto X11.here hx rfl (pc0 := 252) (pc' := 211) rfl (hb hby d1_252) (by decide) (by decide) ?_
   refine XS.iload X11.here hx rfl (hb hby d1_211) rfl ?_
   refine XS.aloadN X11.here hx rfl (hb hby d1_213) rfl rfl ?_
   refine X11.arraylength hx Ar13.1 (State.isArrayOf_alike hZ.alike Ar13.2.1) (g := (mkF m 214 #[.val (.ref a), .val (.ref ti), .val (.ref va), .val (.ref al7), .val (.int (1 : Int32)), .unset, .unset] [(.ref ti), (.int (1 : Int32))])) rfl rfl (hb hby d1_214) _ ?_
   rw [len_of aS13 aN13]
   refine XS.icmpNo X11.here hx rfl (hb hby d1_215) rfl (XT.ii_ge_f (by decide)) ?_
   refine XS.iload X11.here hx rfl (hb hby d1_218) rfl ?_
   refine XS.ifNo X11.here hx rfl (hb hby d1_220) rfl (XT.i0_eq_f (by decide)) ?_
   refine XS.aloadN X11.here hx rfl (hb hby d1_223) rfl rfl ?_
   refine XS.iload X11.here hx rfl (hb hby d1_224) rfl ?_
   refine X11.daload hx (j := (1 : Int32)) (v := (dV tu1)) Ar14.1 (State.isArrayOf_alike hZ.alike Ar14.2.1) Ar14.2.2 hin15 hat15 (g := (mkF m 226 #[.val (.ref a), .val (.ref ti), .val (.ref va), .val (.ref al7), .val (.int (1 : Int32)), .unset, .unset] [(.int (1 : Int32)), (.ref ti)])) rfl rfl (hb hby d1_226) _ ?_
   refine XS.aloadN X11.here hx rfl (hb hby d1_227) rfl rfl ?_
   refine XS.iload X11.here hx rfl (hb hby d1_228) rfl ?_
   refine XS.iconst X11.here hx rfl (hb hby d1_230) ?_
   refine XS.isub X11.here hx rfl (hb hby d1_231) rfl ?_
   refine X11.daload hx (j := (0 : Int32)) (v := (dV tu0)) Ar16.1 (State.isArrayOf_alike hZ.alike Ar16.2.1) Ar16.2.2 hin17 hat17 (g := (mkF m 232 #[.val (.ref a), .val (.ref ti), .val (.ref va), .val (.ref al7), .val (.int (1 : Int32)), .unset, .unset] [(.int (0 : Int32)), (.ref ti), (dV tu1)])) rfl rfl (hb hby d1_232) _ ?_
   refine XS.dcmpS X11.here hx rfl (hb hby d1_233) rfl (dcmpV_w b_tu1 b_tu0 _) ?_
   refine XS.ifNo X11.here hx rfl (hb hby d1_234) rfl (XT.ll_le_f hk18) ?_
   refine XS.aloadN X11.here hx rfl (hb hby d1_237) rfl rfl ?_
   refine XS.iload X11.here hx rfl (hb hby d1_238) rfl ?_
   refine st19 _ ?_
   refine st21.trans ?_
   exact kk
  exact ⟨T21, _, T21.heap, al7, b11, b_k11, X21, N21, rfl, Zs22, KC22, P7_0, P7_1, P7_2, P7_3, P7_4, P7_5, P7_6, P7_7, P21_1, P21_2, P21_3, Ov_b_k11, o7_0, gb11, o7_1, szb11, o7_2, o7_3, o7_4, ne_a_b11, ne_ti_b11, ne_va_b11, ne_al7_b11, pre23⟩
 clear pre0 X0 N0 e0 KC0 Z0 E_a F_times F_values F_instants F_lefts F_rights V_ti E_ti V_va E_va EN
 obtain ⟨cl25, Ar25, aq25, aS25, aN25, aH25, aG25⟩ := id P7_4_c24
 obtain ⟨T26, lo26, H26, di26, di_k26, dl26, dl_k26, dr26, dr_k26, X26, N26, e26, Zs26, KC26, P26_0, P26_1, P26_2, P26_3, P26_4, P26_5, P26_6, o26_0, o26_1, o26_2, o26_3, o26_4, o26_5, st26⟩ := sC2 hw hx hby hml hZ hown hnm a ti ti_k va va_k ((2 : Int32)) ([(dV tu0), (dV tu1)]) ([(dV vu0), (dV vu1)]) ((2 : Int32)) al7 b11 b_k11 i0 i1 ((0 : Int32)) ((1 : Int32)) tu0 tu1 vu1 vu0 vu1 X24 N24 e24 Zs24 KC24 P7_0_c24 P7_1_c24 P7_2_c24 P7_3_c24 P7_4_c24 P7_5_c24 P7_7_c24 P21_1_c24 P21_2_c24 P21_3_c24 P7_6_c24.e0 P7_6_c24.e1 P7_6_c24.f0 P7_6_c24.f1 g_a ne_ti_a ne_va_a (Ne.symm nesc24_2) (Ne.symm nesc24_5) (own_ne2 P7_6_c24.b0 k_a) (own_ne2 P7_6_c24.b1 k_a) (by decide) rfl (by decide) rfl (by decide) rfl (by decide) rfl rfl
 obtain ⟨fs, hr, hrun, hended, hW, hsame⟩ := X26.leave (v := none) (fun _ => rfl)
 refine ⟨_, _, pre24 _ ?_, hrun, hended, _, _, rfl, ?_, ⟨_, rfl⟩, hW, hsame.mono (by decide) (by decide)⟩
 ·skip
  refine XS.pop X24.here hx rfl (hb hby d1_248) rfl rfl ?_
  refine XS.iinc X24.here hx rfl (hb hby d1_249) rfl (l' := #[.val (.ref a), .val (.ref ti), .val (.ref va), .val (.ref al7), .val (.int (2 : Int32)), .unset, .unset]) rfl ?_
  refine XS.goto X24.here hx rfl (pc0 := 252) (pc' := 211) rfl (hb hby d1_252) (by decide) (by decide) ?_
  refine XS.iload X24.here hx rfl (hb hby d1_211) rfl ?_
  refine XS.aloadN X24.here hx rfl (hb hby d1_213) rfl rfl ?_
  refine X24.arraylength hx (by rw [e24]; exact Ar25.1) (State.isArrayOf_alike hZ.alike Ar25.2.1) (g := (mkF m 214 #[.val (.ref a), .val (.ref ti), .val (.ref va), .val (.ref al7), .val (.int (2 : Int32)), .unset, .unset] [(.ref ti), (.int (2 : Int32))])) rfl rfl (hb hby d1_214) _ ?_
  rw [len_of aS25 aN25]
  refine XS.icmpYes X24.here hx rfl (pc0 := 215) (pc' := 255) rfl (hb hby d1_215) rfl (XT.ii_ge_t (by decide)) (by decide) (by decide) ?_
  refine st26 _ ?_
  exact X26.returnOut hx Bd.returns (hb hby d1_409) hr
 ·show QC2t Z a ti ti_k va va_k kB aE kE aC kC lC i0 i1 i2 tu0 tu1 vu0 vu1 h0 n0 _ T26.heap _
  rw [e26]
  exact ⟨di26, di_k26, dl26, dl_k26, dr26, dr_k26, rfl, N26, KC26, o26_0, o26_1, o26_2, o26_3, o26_4, o26_5, P26_0, P26_1, P26_2, P26_3, P26_4, P26_5, P26_6⟩
def QC2f (Z : State) (a : Addr) (ti : Addr) (ti_k : ClassId) (va : Addr) (va_k : ClassId) (kB : Nat) (aE : Addr) (kE : ClassId) (aC : Addr) (kC : ClassId) (lC : List Value) (i0 : Addr) (i1 : Addr) (i2 : Addr) (tu0 : Int64) (tu1 : Int64) (vu0 : Int64) (vu1 : Int64) (h0 : Heap) (n0 : Nat) (v : Option Value) (h : Heap) (L : List Loc) : Prop := ∃ (di : Addr) (di_k : ClassId) (dl : Addr) (dl_k : ClassId) (dr : Addr) (dr_k : ClassId), v = none ∧ Fr n0 L ∧ Keep h0 h [a] ∧ n0 ≤ di ∧ h0.size ≤ di ∧ n0 ≤ dl ∧ h0.size ≤ dl ∧ n0 ≤ dr ∧ h0.size ≤ dr ∧ Exa Z h a cF ∧ Fld Z h a cF "instants" "[D" (.ref di) ∧ Fld Z h a cF "lefts" "[D" (.ref dl) ∧ Fld Z h a cF "rights" "[D" (.ref dr) ∧ Arv Z h di di_k .double (1 : Int32) [(dV tu0)] dZ ∧ Arv Z h dl dl_k .double (1 : Int32) [dZ] dZ ∧ Arv Z h dr dr_k .double (1 : Int32) [(dV vu1)] dZ
set_option maxRecDepth 65536 in
set_option maxHeartbeats 40000000 in
theorem rmC2f (l : Launch) (Z : State) (a0 : Array Value) (hw : HW a0 Z) (ws : List Jvm.Cond) (a : Addr) (ti : Addr) (ti_k : ClassId) (va : Addr) (va_k : ClassId) (kB : Nat) (aE : Addr) (kE : ClassId) (aC : Addr) (kC : ClassId) (lC : List Value) (i0 : Addr) (i1 : Addr) (i2 : Addr) (tu0 : Int64) (tu1 : Int64) (vu0 : Int64) (vu1 : Int64) (h0 : Heap) (n0 : Nat) (Z0 : n0 ≤ h0.size) (E_a : Exa Z h0 a cF) (F_times : Fld Z h0 a cF "times" "[D" .null) (F_values : Fld Z h0 a cF "values" "[D" .null) (F_instants : Fld Z h0 a cF "instants" "[D" .null) (F_lefts : Fld Z h0 a cF "lefts" "[D" .null) (F_rights : Fld Z h0 a cF "rights" "[D" .null) (V_ti : Arv Z h0 ti ti_k .double (2 : Int32) [(dV tu0), (dV tu1)] dZ) (E_ti : Exa Z h0 ti "[D") (V_va : Arv Z h0 va va_k .double (2 : Int32) [(dV vu0), (dV vu1)] dZ) (E_va : Exa Z h0 va "[D") (EN : EnvJ Z kB h0 aE kE aC kC lC i0 i1 i2) (hkB : kB ≤ h0.size) (k_a : kB ≤ a) (g_a : n0 ≤ a) (ne_ti_a : ti ≠ a) (ne_va_a : va ≠ a) (b_tu0 : B53 tu0) (b_tu1 : B53 tu1) (b_vu0 : B53 vu0) (b_vu1 : B53 vu1) (ov0 : ¬ vu0 < (0 : Int64)) (ot1 : ¬ tu1 < tu0) (ov1 : ¬ vu1 < vu0) (ps1 : ¬ tu0 < tu1) :
    MetFree l M18 (head1 (Jvm.Cond.code M18 prog_37_method_1_code 7 none :: ws) R5_7_28_108) (fun ar UU => ar = #[(.ref a), (.ref ti), (.ref va)] ∧ Z.Warmed39 UU.vm ∧ UU.heap = h0) (fun _ _ _ _ _ => True) (fun _ UU oo UU' => ∃ vv LL, oo = .returned vv ∧ QC2f Z a ti ti_k va va_k kB aE kE aC kC lC i0 i1 i2 tu0 tu1 vu0 vu1 h0 n0 vv UU'.heap LL ∧ FrameEnd UU oo UU' LL R5_7_28_108.cells R5_7_28_108.slots) := by
 refine MetFree.of_bodySF (plainFor_of_name pn_1) hisR ?_
 intro p e s m args below meth c s₁ Bd hml0 hP hK
 obtain ⟨rfl, hZ, hh⟩ := hP
 have hx := Bd.exec
 have hby := Bd.bytes
 have hml : c.maxLocals = 7 := hml0
 have hown : s.vm.findClass "com/example/narrow_bound/narrowbound/witness/CumulativeFunction" = some m.cls := findClass_of_methodNamed Bd.named
 have hnm := (name_of_methodNamed Bd.named Bd.method).1
 have X0 : Stand p l e R5_7_28_108 s m #[(.ref a), (.ref ti), (.ref va)] below meth c s₁ [] 0 0 := Stand.of_body Bd
 have e0 : s₁.heap = h0 := by rw [← hh, Bd.state]; rfl
 have N0 := Fr.nil n0
 have KC0 : Keep h0 h0 [a] := Keep.refl h0 [a]
 have pre0 : ∀ tgt, Steps p.tables e below (s₁.setTop (mkF m 0 #[.val (.ref a), .val (.ref ti), .val (.ref va), .unset, .unset, .unset, .unset] [])) tgt → Steps p.tables e below (s₁.setTop (entryFrame m #[(.ref a), (.ref ti), (.ref va)] 7)) tgt := fun tgt kk => castTop (ef1_RRR m (a) (ti) (va)) kk
 generalize hI : s₁.setTop (entryFrame m #[(.ref a), (.ref ti), (.ref va)] 7) = I0 at pre0 ⊢
 obtain ⟨T22, lo22, Hc22, al7, di20, dl20, dr20, di_k20, dl_k20, dr_k20, X22, N22, e22, Zs22, KC22, P20_0_c22, P20_1_c22, P20_2_c22, P20_3_c22, P20_4_c22, P20_5_c22, P20_6_c22, gnc22_1, gnc22_3, gnc22_4, gnc22_5, szc22_0, szc22_2, szc22_3, szc22_4, nesc22_2, nesc22_3, nesc22_4, pre22⟩ : ∃ (T22 : State) (lo22 : List Loc) (Hc22 : Heap) (al7 : Addr) (di20 : Addr) (dl20 : Addr) (dr20 : Addr) (di_k20 : ClassId) (dl_k20 : ClassId) (dr_k20 : ClassId), Stand p l e R5_7_28_108 s m #[(.ref a), (.ref ti), (.ref va)] below meth c T22 lo22 7 22 ∧ Fr n0 lo22 ∧ T22.heap = Hc22 ∧ n0 ≤ Hc22.size ∧ Keep h0 Hc22 [a] ∧ Exa Z Hc22 a cF ∧ Fld Z Hc22 a cF "instants" "[D" (.ref di20) ∧ Fld Z Hc22 a cF "lefts" "[D" (.ref dl20) ∧ Fld Z Hc22 a cF "rights" "[D" (.ref dr20) ∧ Arv Z Hc22 di20 di_k20 .double (1 : Int32) [(dV tu0)] dZ ∧ Arv Z Hc22 dl20 dl_k20 .double (1 : Int32) [dZ] dZ ∧ Arv Z Hc22 dr20 dr_k20 .double (1 : Int32) [(dV vu1)] dZ ∧ n0 ≤ al7 ∧ n0 ≤ di20 ∧ n0 ≤ dl20 ∧ n0 ≤ dr20 ∧ h0.size ≤ al7 ∧ h0.size ≤ di20 ∧ h0.size ≤ dl20 ∧ h0.size ≤ dr20 ∧ a ≠ al7 ∧ ti ≠ al7 ∧ va ≠ al7 ∧ Pr p e below I0 T22 (mkF m 409 #[.val (.ref a), .val (.ref ti), .val (.ref va), .val (.ref al7), .val (.int (1 : Int32)), .val (.int (0 : Int32)), .val (.int ((2 : Int32) - (1 : Int32)))] []) := by
  obtain ⟨T1, X1, e1, st1⟩ := initO X0 hx hZ hown (tw7 hw) (tw8 hw) (tw9 hw) e0 (g := (mkF m 1 #[.val (.ref a), .val (.ref ti), .val (.ref va), .unset, .unset, .unset, .unset] [(.ref a)])) rfl (by rw [hml]; rfl) rfl (hb hby d1_1) (by decide) (W := 0) (own_mr rfl) (by decide)
  obtain ⟨cl2, Ar2, aq2, aS2, aN2, aH2, aG2⟩ := id V_ti
  obtain ⟨cl3, Ar3, aq3, aS3, aN3, aH3, aG3⟩ := id V_va
  obtain ⟨T4, lo4, X4, N4, e4, st4⟩ := sV0 hw hx hby hml hZ hown hnm a ti ti_k va va_k ((2 : Int32)) ([(dV tu0), (dV tu1)]) ([(dV vu0), (dV vu1)]) tu0 vu0 X1 N0 e1 Z0 KC0 V_ti V_va (by decide) rfl rfl b_tu0 b_vu0 ov0
  obtain ⟨T5, lo5, X5, N5, e5, st5⟩ := sV1 hw hx hby hml hZ hown hnm a ti ti_k va va_k ((2 : Int32)) ([(dV tu0), (dV tu1)]) ([(dV vu0), (dV vu1)]) ((1 : Int32)) ((2 : Int32)) tu0 tu1 vu0 vu1 X4 N4 e4 Z0 KC0 V_ti V_va (by decide) (by decide) (by decide) (by decide) (by decide) rfl rfl rfl rfl b_tu0 b_tu1 b_vu0 b_vu1 ot1 ov1
  obtain ⟨cl6, Ar6, aq6, aS6, aN6, aH6, aG6⟩ := id V_ti
  obtain ⟨T7, lo7, H7, al7, X7, N7, e7, Zs7, KC7, P7_0, P7_1, P7_2, P7_3, P7_4, P7_5, P7_6, P7_7, P7_8, P7_9, P7_10, o7_0, o7_1, o7_2, o7_3, o7_4, st7⟩ := sA hw hx hby hml hZ hown hnm a ti ti_k va va_k ((2 : Int32)) ([(dV tu0), (dV tu1)]) ([(dV vu0), (dV vu1)]) ((2 : Int32)) kB aE kE aC kC lC i0 i1 i2 X5 N5 e5 Z0 KC0 E_a F_times F_values F_instants F_lefts F_rights V_ti E_ti V_va E_va EN hkB k_a g_a ne_ti_a ne_va_a (by decide)
  obtain ⟨cl8, Ar8, aq8, aS8, aN8, aH8, aG8⟩ := id P7_4
  obtain ⟨_, _, ⟨T9, L9, k9, n9⟩, -, X9, ⟨Lc9, hQ9, l9, y9, z9⟩, st9⟩ := Jvm.LawKit.callS X7 hx (y := M10) hown (mvT hZ (tw82 hw)) (mvT hZ (tw83 hw)) (mvT hZ (tw84 hw)) (mvT hZ (tw85 hw)) (by decide) (backOf (W := 1) (rmV0 l Z a0 hw [] aC kC lC i0 H7 n0 Zs7 P7_6.sH P7_6.sC P7_6.vC P7_6.t0) hZ (tw85 hw) (tw84 hw) (by decide) (by decide)) (g := (mkF m 240 #[.val (.ref a), .val (.ref ti), .val (.ref va), .val (.ref al7), .val (.int (0 : Int32)), .unset, .unset] [(.int (0 : Int32)), (.ref al7)])) rfl (by rw [hml]; rfl) (argsL := [(.int (0 : Int32))]) (rest := [(.ref al7)]) (lenOf pd__I_Ljava_lang_Integer_ rfl) rfl (own_mr rfl) (hb hby d1_240) (fun _ _ => ⟨rfl, e7, (by decide : 3 + 0 ≤ _), (by decide : 9 + 0 ≤ _)⟩)
  dsimp only [Pt.U, Pt.locs, Pt.cells, Pt.slots] at X9 l9 y9 z9 st9 hQ9
  rw [l9, y9, z9] at X9
  obtain ⟨rfl, N9q, hh9⟩ := hQ9
  have N9 := Fr.app N7 N9q
  have lt10_0 := P7_0.lt
  obtain ⟨cq11, kq11, q11a, q11b, q11c⟩ := isOf hZ hh9 P7_7
  obtain ⟨_, _, ⟨T11, L11, k11, n11⟩, -, X11, ⟨Lc11, hQ11, l11, y11, z11⟩, st11⟩ := X9.interfaceBack hx (xi := M19) (y := M9) hown (mvT hZ (tw89 hw)) (mvT hZ (tw90 hw)) (mvT hZ (tw91 hw)) (mvT hZ (tw92 hw)) (mvT hZ (tw93 hw)) (mvT hZ (tw94 hw)) (mvT hZ (tw95 hw)) (mvT hZ (tw54 hw)) (by decide) (backOf (W := 0) (rmA0 l Z a0 hw [] al7 aE kE i0 H7 n0 Zs7 P7_7 P7_8 P7_9 P7_10 P7_6.sD P7_6.vE o7_0 (own_ne2 P7_6.bE (Nat.le_trans hkB o7_1)) P7_6.e0) hZ (tw96 hw) (tw25 hw) (by decide) (by decide)) q11a q11b q11c (g := (mkF m 243 #[.val (.ref a), .val (.ref ti), .val (.ref va), .val (.ref al7), .val (.int (0 : Int32)), .unset, .unset] [(.ref i0), (.ref al7)])) rfl (by rw [hml]; rfl) (Steps.refl _) (argsL := [(.ref i0)]) (rest := []) (lenOf pd__Ljava_lang_Object__Z rfl) rfl (own_mr rfl) (hb hby d1_243) (fun _ _ => ⟨rfl, hh9, (by decide : 3 + 1 ≤ _), (by decide : 9 + 10 ≤ _)⟩)
  dsimp only [Pt.U, Pt.locs, Pt.cells, Pt.slots] at X11 l11 y11 z11 st11 hQ11
  rw [l11, y11, z11] at X11
  obtain ⟨b11, b_k11, rfl, N11q, K11, gb11, sb11, Ov_b_k11, -, P11_1, P11_2, P11_3⟩ := hQ11
  have N11 := Fr.app N9 N11q
  have pl26_al7 := own_plain_Exa P7_7
  replace P7_0 := P7_0.keep K11
  replace P7_1 := P7_1.keep K11 (ninS o7_2 nin0)
  replace P7_2 := P7_2.keep K11 (ninS o7_2 nin0)
  replace P7_3 := P7_3.keep K11 (ninS o7_2 nin0)
  replace P7_4 := P7_4.keep K11 (ninS o7_3 nin0)
  replace P7_5 := P7_5.keep K11 (ninS o7_4 nin0)
  replace P7_6 := P7_6.keep K11 (allS (Nat.le_trans hkB o7_1) all0) (allS pl26_al7 all0)
  replace P7_7 := P7_7.keep K11
  have Zs12 := Nat.le_trans Zs7 K11.1
  have KC12 := KC7.trans K11 (allS (Or.inr o7_1) all0)
  have ne_a_b11 := own_ne2 lt10_0 sb11
  have szb11 := Nat.le_trans KC7.1 sb11
  obtain ⟨cl13, Ar13, aq13, aS13, aN13, aH13, aG13⟩ := id P7_4
  obtain ⟨cl14, Ar14, aq14, aS14, aN14, aH14, aG14⟩ := id P7_4
  have hin15 : ¬ ((1 : Int32) < 0 ∨ cl14.slots.size ≤ ((1 : Int32)).toNatClampNeg) := inb_of aS14 ⟨by decide, by decide⟩
  have hat15 : cl14.slots[((1 : Int32)).toNatClampNeg]? = some (dV tu1) := Has.at aH14 hin15 rfl
  obtain ⟨cl16, Ar16, aq16, aS16, aN16, aH16, aG16⟩ := id P7_4
  have hin17 : ¬ ((0 : Int32) < 0 ∨ cl16.slots.size ≤ ((0 : Int32)).toNatClampNeg) := inb_of aS16 ⟨by decide, by decide⟩
  have hat17 : cl16.slots[((0 : Int32)).toNatClampNeg]? = some (dV tu0) := Has.at aH16 hin17 rfl
  have hk18 : ¬ (tu0 < tu1) := ps1
  obtain ⟨cl19, Ar19, aq19, aS19, aN19, aH19, aG19⟩ := id P7_4
  obtain ⟨T20, lo20, H20, di20, di_k20, dl20, dl_k20, dr20, dr_k20, X20, N20, e20, Zs20, KC20, P20_0, P20_1, P20_2, P20_3, P20_4, P20_5, P20_6, o20_0, o20_1, o20_2, o20_3, o20_4, o20_5, st20⟩ := sC1 hw hx hby hml hZ hown hnm a ti ti_k va va_k ((2 : Int32)) ([(dV tu0), (dV tu1)]) ([(dV vu0), (dV vu1)]) ((2 : Int32)) al7 b11 b_k11 i0 ((0 : Int32)) tu0 vu1 X11 N11 rfl Zs12 KC12 P7_0 P7_1 P7_2 P7_3 P7_4 P7_5 P7_7 P11_1 P11_2 P11_3 P7_6.e0 P7_6.f0 g_a ne_ti_a ne_va_a (Ne.symm o7_2) (Ne.symm ne_a_b11) (own_ne2 P7_6.b0 k_a) (by decide) rfl (by decide) rfl
  have pre21 : Pr p e below I0 T20 (mkF m 409 #[.val (.ref a), .val (.ref ti), .val (.ref va), .val (.ref al7), .val (.int (1 : Int32)), .val (.int (0 : Int32)), .val (.int ((2 : Int32) - (1 : Int32)))] []) := by
   intro tg kk
   refine pre0 tg ?_
   refine XS.aloadN X0.here hx rfl (hb hby d1_0) rfl rfl ?_
   refine st1 _ ?_
   refine XS.aloadN X1.here hx rfl (hb hby d1_4) rfl rfl ?_
   refine X1.arraylength hx (by rw [e1]; exact Ar2.1) (State.isArrayOf_alike hZ.alike Ar2.2.1) (g := (mkF m 5 #[.val (.ref a), .val (.ref ti), .val (.ref va), .unset, .unset, .unset, .unset] [(.ref ti)])) rfl rfl (hb hby d1_5) _ ?_
   rw [len_of aS2 aN2]
   refine XS.aloadN X1.here hx rfl (hb hby d1_6) rfl rfl ?_
   refine X1.arraylength hx (by rw [e1]; exact Ar3.1) (State.isArrayOf_alike hZ.alike Ar3.2.1) (g := (mkF m 7 #[.val (.ref a), .val (.ref ti), .val (.ref va), .unset, .unset, .unset, .unset] [(.ref va), (.int (2 : Int32))])) rfl rfl (hb hby d1_7) _ ?_
   rw [len_of aS3 aN3]
   refine XS.icmpYes X1.here hx rfl (pc0 := 8) (pc' := 28) rfl (hb hby d1_8) rfl (XT.ii_eq_t (by decide)) (by decide) (by decide) ?_
   refine XS.iconst X1.here hx rfl (hb hby d1_28) ?_
   refine XS.istoreN X1.here hx rfl (hb hby d1_29) rfl (l' := #[.val (.ref a), .val (.ref ti), .val (.ref va), .val (.int (0 : Int32)), .unset, .unset, .unset]) rfl ?_
   refine st4 _ ?_
   refine st5 _ ?_
   refine XS.iloadN X5.here hx rfl (hb hby d1_30) rfl ?_
   refine XS.aloadN X5.here hx rfl (hb hby d1_31) rfl rfl ?_
   refine X5.arraylength hx (by rw [e5]; exact Ar6.1) (State.isArrayOf_alike hZ.alike Ar6.2.1) (g := (mkF m 32 #[.val (.ref a), .val (.ref ti), .val (.ref va), .val (.int (2 : Int32)), .unset, .unset, .unset] [(.ref ti), (.int (2 : Int32))])) rfl rfl (hb hby d1_32) _ ?_
   rw [len_of aS6 aN6]
   refine XS.icmpYes X5.here hx rfl (pc0 := 33) (pc' := 178) rfl (hb hby d1_33) rfl (XT.ii_ge_t (by decide)) (by decide) (by decide) ?_
   refine st7 _ ?_
   refine XS.iload X7.here hx rfl (hb hby d1_211) rfl ?_
   refine XS.aloadN X7.here hx rfl (hb hby d1_213) rfl rfl ?_
   refine X7.arraylength hx (by rw [e7]; exact Ar8.1) (State.isArrayOf_alike hZ.alike Ar8.2.1) (g := (mkF m 214 #[.val (.ref a), .val (.ref ti), .val (.ref va), .val (.ref al7), .val (.int (0 : Int32)), .unset, .unset] [(.ref ti), (.int (0 : Int32))])) rfl rfl (hb hby d1_214) _ ?_
   rw [len_of aS8 aN8]
   refine XS.icmpNo X7.here hx rfl (hb hby d1_215) rfl (XT.ii_ge_f (by decide)) ?_
   refine XS.iload X7.here hx rfl (hb hby d1_218) rfl ?_
   refine XS.ifYes X7.here hx rfl (pc0 := 220) (pc' := 237) rfl (hb hby d1_220) rfl (XT.i0_eq_t (by decide)) (by decide) (by decide) ?_
   refine XS.aloadN X7.here hx rfl (hb hby d1_237) rfl rfl ?_
   refine XS.iload X7.here hx rfl (hb hby d1_238) rfl ?_
   refine st9 _ ?_
   refine st11.trans ?_
   refine XS.pop X11.here hx rfl (hb hby d1_248) rfl rfl ?_
   refine XS.iinc X11.here hx rfl (hb hby d1_249) rfl (l' := #[.val (.ref a), .val (.ref ti), .val (.ref va), .val (.ref al7), .val (.int (1 : Int32)), .unset, .unset]) rfl ?_
   refine XS.goto X11.here hx rfl (pc0 := 252) (pc' := 211) rfl (hb hby d1_252) (by decide) (by decide) ?_
   refine XS.iload X11.here hx rfl (hb hby d1_211) rfl ?_
   refine XS.aloadN X11.here hx rfl (hb hby d1_213) rfl rfl ?_
   refine X11.arraylength hx Ar13.1 (State.isArrayOf_alike hZ.alike Ar13.2.1) (g := (mkF m 214 #[.val (.ref a), .val (.ref ti), .val (.ref va), .val (.ref al7), .val (.int (1 : Int32)), .unset, .unset] [(.ref ti), (.int (1 : Int32))])) rfl rfl (hb hby d1_214) _ ?_
   rw [len_of aS13 aN13]
   refine XS.icmpNo X11.here hx rfl (hb hby d1_215) rfl (XT.ii_ge_f (by decide)) ?_
   refine XS.iload X11.here hx rfl (hb hby d1_218) rfl ?_
   refine XS.ifNo X11.here hx rfl (hb hby d1_220) rfl (XT.i0_eq_f (by decide)) ?_
   refine XS.aloadN X11.here hx rfl (hb hby d1_223) rfl rfl ?_
   refine XS.iload X11.here hx rfl (hb hby d1_224) rfl ?_
   refine X11.daload hx (j := (1 : Int32)) (v := (dV tu1)) Ar14.1 (State.isArrayOf_alike hZ.alike Ar14.2.1) Ar14.2.2 hin15 hat15 (g := (mkF m 226 #[.val (.ref a), .val (.ref ti), .val (.ref va), .val (.ref al7), .val (.int (1 : Int32)), .unset, .unset] [(.int (1 : Int32)), (.ref ti)])) rfl rfl (hb hby d1_226) _ ?_
   refine XS.aloadN X11.here hx rfl (hb hby d1_227) rfl rfl ?_
   refine XS.iload X11.here hx rfl (hb hby d1_228) rfl ?_
   refine XS.iconst X11.here hx rfl (hb hby d1_230) ?_
   refine XS.isub X11.here hx rfl (hb hby d1_231) rfl ?_
   refine X11.daload hx (j := (0 : Int32)) (v := (dV tu0)) Ar16.1 (State.isArrayOf_alike hZ.alike Ar16.2.1) Ar16.2.2 hin17 hat17 (g := (mkF m 232 #[.val (.ref a), .val (.ref ti), .val (.ref va), .val (.ref al7), .val (.int (1 : Int32)), .unset, .unset] [(.int (0 : Int32)), (.ref ti), (dV tu1)])) rfl rfl (hb hby d1_232) _ ?_
   refine XS.dcmpS X11.here hx rfl (hb hby d1_233) rfl (dcmpV_w b_tu1 b_tu0 _) ?_
   refine XS.ifYes X11.here hx rfl (pc0 := 234) (pc' := 249) rfl (hb hby d1_234) rfl (XT.ll_le_t hk18) (by decide) (by decide) ?_
   refine XS.iinc X11.here hx rfl (hb hby d1_249) rfl (l' := #[.val (.ref a), .val (.ref ti), .val (.ref va), .val (.ref al7), .val (.int (2 : Int32)), .unset, .unset]) rfl ?_
   refine XS.goto X11.here hx rfl (pc0 := 252) (pc' := 211) rfl (hb hby d1_252) (by decide) (by decide) ?_
   refine XS.iload X11.here hx rfl (hb hby d1_211) rfl ?_
   refine XS.aloadN X11.here hx rfl (hb hby d1_213) rfl rfl ?_
   refine X11.arraylength hx Ar19.1 (State.isArrayOf_alike hZ.alike Ar19.2.1) (g := (mkF m 214 #[.val (.ref a), .val (.ref ti), .val (.ref va), .val (.ref al7), .val (.int (2 : Int32)), .unset, .unset] [(.ref ti), (.int (2 : Int32))])) rfl rfl (hb hby d1_214) _ ?_
   rw [len_of aS19 aN19]
   refine XS.icmpYes X11.here hx rfl (pc0 := 215) (pc' := 255) rfl (hb hby d1_215) rfl (XT.ii_ge_t (by decide)) (by decide) (by decide) ?_
   refine st20 _ ?_
   exact kk
  exact ⟨T20, _, H20, al7, di20, dl20, dr20, di_k20, dl_k20, dr_k20, X20, N20, e20, Zs20, KC20, P20_0, P20_1, P20_2, P20_3, P20_4, P20_5, P20_6, o7_0, o20_0, o20_2, o20_4, o7_1, o20_1, o20_3, o20_5, o7_2, o7_3, o7_4, pre21⟩
 clear pre0 X0 N0 e0 KC0 Z0 E_a F_times F_values F_instants F_lefts F_rights V_ti E_ti V_va E_va EN
 obtain ⟨fs, hr, hrun, hended, hW, hsame⟩ := X22.leave (v := none) (fun _ => rfl)
 refine ⟨_, _, pre22 _ ?_, hrun, hended, _, _, rfl, ?_, ⟨_, rfl⟩, hW, hsame.mono (by decide) (by decide)⟩
 ·skip
  exact X22.returnOut hx Bd.returns (hb hby d1_409) hr
 ·show QC2f Z a ti ti_k va va_k kB aE kE aC kC lC i0 i1 i2 tu0 tu1 vu0 vu1 h0 n0 _ T22.heap _
  rw [e22]
  exact ⟨di20, di_k20, dl20, dl_k20, dr20, dr_k20, rfl, N22, KC22, gnc22_3, szc22_2, gnc22_4, szc22_3, gnc22_5, szc22_4, P20_0_c22, P20_1_c22, P20_2_c22, P20_3_c22, P20_4_c22, P20_5_c22, P20_6_c22⟩
def QC3tt (Z : State) (a : Addr) (ti : Addr) (ti_k : ClassId) (va : Addr) (va_k : ClassId) (kB : Nat) (aE : Addr) (kE : ClassId) (aC : Addr) (kC : ClassId) (lC : List Value) (i0 : Addr) (i1 : Addr) (i2 : Addr) (tu0 : Int64) (tu1 : Int64) (tu2 : Int64) (vu0 : Int64) (vu1 : Int64) (vu2 : Int64) (h0 : Heap) (n0 : Nat) (v : Option Value) (h : Heap) (L : List Loc) : Prop := ∃ (di : Addr) (di_k : ClassId) (dl : Addr) (dl_k : ClassId) (dr : Addr) (dr_k : ClassId), v = none ∧ Fr n0 L ∧ Keep h0 h [a] ∧ n0 ≤ di ∧ h0.size ≤ di ∧ n0 ≤ dl ∧ h0.size ≤ dl ∧ n0 ≤ dr ∧ h0.size ≤ dr ∧ Exa Z h a cF ∧ Fld Z h a cF "instants" "[D" (.ref di) ∧ Fld Z h a cF "lefts" "[D" (.ref dl) ∧ Fld Z h a cF "rights" "[D" (.ref dr) ∧ Arv Z h di di_k .double (3 : Int32) [(dV tu0), (dV tu1), (dV tu2)] dZ ∧ Arv Z h dl dl_k .double (3 : Int32) [dZ, (dV vu1), (dV vu2)] dZ ∧ Arv Z h dr dr_k .double (3 : Int32) [(dV vu0), (dV vu1), (dV vu2)] dZ
set_option maxRecDepth 65536 in
set_option maxHeartbeats 40000000 in
theorem rmC3tt (l : Launch) (Z : State) (a0 : Array Value) (hw : HW a0 Z) (ws : List Jvm.Cond) (a : Addr) (ti : Addr) (ti_k : ClassId) (va : Addr) (va_k : ClassId) (kB : Nat) (aE : Addr) (kE : ClassId) (aC : Addr) (kC : ClassId) (lC : List Value) (i0 : Addr) (i1 : Addr) (i2 : Addr) (tu0 : Int64) (tu1 : Int64) (tu2 : Int64) (vu0 : Int64) (vu1 : Int64) (vu2 : Int64) (h0 : Heap) (n0 : Nat) (Z0 : n0 ≤ h0.size) (E_a : Exa Z h0 a cF) (F_times : Fld Z h0 a cF "times" "[D" .null) (F_values : Fld Z h0 a cF "values" "[D" .null) (F_instants : Fld Z h0 a cF "instants" "[D" .null) (F_lefts : Fld Z h0 a cF "lefts" "[D" .null) (F_rights : Fld Z h0 a cF "rights" "[D" .null) (V_ti : Arv Z h0 ti ti_k .double (3 : Int32) [(dV tu0), (dV tu1), (dV tu2)] dZ) (E_ti : Exa Z h0 ti "[D") (V_va : Arv Z h0 va va_k .double (3 : Int32) [(dV vu0), (dV vu1), (dV vu2)] dZ) (E_va : Exa Z h0 va "[D") (EN : EnvJ Z kB h0 aE kE aC kC lC i0 i1 i2) (hkB : kB ≤ h0.size) (k_a : kB ≤ a) (g_a : n0 ≤ a) (ne_ti_a : ti ≠ a) (ne_va_a : va ≠ a) (b_tu0 : B53 tu0) (b_tu1 : B53 tu1) (b_tu2 : B53 tu2) (b_vu0 : B53 vu0) (b_vu1 : B53 vu1) (b_vu2 : B53 vu2) (ov0 : ¬ vu0 < (0 : Int64)) (ot1 : ¬ tu1 < tu0) (ov1 : ¬ vu1 < vu0) (ps1 : tu0 < tu1) (ot2 : ¬ tu2 < tu1) (ov2 : ¬ vu2 < vu1) (ps2 : tu1 < tu2) :
    MetFree l M18 (head1 (Jvm.Cond.code M18 prog_37_method_1_code 7 none :: ws) R5_7_28_108) (fun ar UU => ar = #[(.ref a), (.ref ti), (.ref va)] ∧ Z.Warmed39 UU.vm ∧ UU.heap = h0) (fun _ _ _ _ _ => True) (fun _ UU oo UU' => ∃ vv LL, oo = .returned vv ∧ QC3tt Z a ti ti_k va va_k kB aE kE aC kC lC i0 i1 i2 tu0 tu1 tu2 vu0 vu1 vu2 h0 n0 vv UU'.heap LL ∧ FrameEnd UU oo UU' LL R5_7_28_108.cells R5_7_28_108.slots) := by
 refine MetFree.of_bodySF (plainFor_of_name pn_1) hisR ?_
 intro p e s m args below meth c s₁ Bd hml0 hP hK
 obtain ⟨rfl, hZ, hh⟩ := hP
 have hx := Bd.exec
 have hby := Bd.bytes
 have hml : c.maxLocals = 7 := hml0
 have hown : s.vm.findClass "com/example/narrow_bound/narrowbound/witness/CumulativeFunction" = some m.cls := findClass_of_methodNamed Bd.named
 have hnm := (name_of_methodNamed Bd.named Bd.method).1
 have X0 : Stand p l e R5_7_28_108 s m #[(.ref a), (.ref ti), (.ref va)] below meth c s₁ [] 0 0 := Stand.of_body Bd
 have e0 : s₁.heap = h0 := by rw [← hh, Bd.state]; rfl
 have N0 := Fr.nil n0
 have KC0 : Keep h0 h0 [a] := Keep.refl h0 [a]
 have pre0 : ∀ tgt, Steps p.tables e below (s₁.setTop (mkF m 0 #[.val (.ref a), .val (.ref ti), .val (.ref va), .unset, .unset, .unset, .unset] [])) tgt → Steps p.tables e below (s₁.setTop (entryFrame m #[(.ref a), (.ref ti), (.ref va)] 7)) tgt := fun tgt kk => castTop (ef1_RRR m (a) (ti) (va)) kk
 generalize hI : s₁.setTop (entryFrame m #[(.ref a), (.ref ti), (.ref va)] 7) = I0 at pre0 ⊢
 obtain ⟨T25, lo25, Hc25, al8, b12, b_k12, X25, N25, e25, Zs25, KC25, P8_0_c25, P8_1_c25, P8_2_c25, P8_3_c25, P8_4_c25, P8_5_c25, P8_6_c25, P8_7_c25, P22_0_c25, P22_1_c25, P22_2_c25, P22_3_c25, Ovc25_b_k12, gnc25_1, gnc25_2, szc25_0, szc25_1, nesc25_2, nesc25_3, nesc25_4, nesc25_5, nesc25_6, nesc25_7, nesc25_8, pre25⟩ : ∃ (T25 : State) (lo25 : List Loc) (Hc25 : Heap) (al8 : Addr) (b12 : Addr) (b_k12 : ClassId), Stand p l e R5_7_28_108 s m #[(.ref a), (.ref ti), (.ref va)] below meth c T25 lo25 4 19 ∧ Fr n0 lo25 ∧ T25.heap = Hc25 ∧ n0 ≤ Hc25.size ∧ Keep h0 Hc25 [a] ∧ Exa Z Hc25 a cF ∧ Fld Z Hc25 a cF "instants" "[D" .null ∧ Fld Z Hc25 a cF "lefts" "[D" .null ∧ Fld Z Hc25 a cF "rights" "[D" .null ∧ Arv Z Hc25 ti ti_k .double (3 : Int32) [(dV tu0), (dV tu1), (dV tu2)] dZ ∧ Arv Z Hc25 va va_k .double (3 : Int32) [(dV vu0), (dV vu1), (dV vu2)] dZ ∧ EnvJ Z kB Hc25 aE kE aC kC lC i0 i1 i2 ∧ Exa Z Hc25 al8 aL ∧ Fld Z Hc25 al8 aB "modCount" "I" (.int (2 : Int32)) ∧ Fld Z Hc25 al8 aL "size" "I" (.int (2 : Int32)) ∧ Fld Z Hc25 al8 aL "elementData" lO (.ref b12) ∧ Arv Z Hc25 b12 b_k12 (.object "java/lang/Object") (10 : Int32) [(.ref i0), (.ref i1), .null, .null, .null, .null, .null, .null, .null, .null] .null ∧ Ovr Z b_k12 "java/lang/Object" ∧ n0 ≤ al8 ∧ n0 ≤ b12 ∧ h0.size ≤ al8 ∧ h0.size ≤ b12 ∧ a ≠ al8 ∧ ti ≠ al8 ∧ va ≠ al8 ∧ a ≠ b12 ∧ ti ≠ b12 ∧ va ≠ b12 ∧ al8 ≠ b12 ∧ Pr p e below I0 T25 (mkF m 248 #[.val (.ref a), .val (.ref ti), .val (.ref va), .val (.ref al8), .val (.int (1 : Int32)), .unset, .unset] [(.int (1 : Int32))]) := by
  obtain ⟨T1, X1, e1, st1⟩ := initO X0 hx hZ hown (tw7 hw) (tw8 hw) (tw9 hw) e0 (g := (mkF m 1 #[.val (.ref a), .val (.ref ti), .val (.ref va), .unset, .unset, .unset, .unset] [(.ref a)])) rfl (by rw [hml]; rfl) rfl (hb hby d1_1) (by decide) (W := 0) (own_mr rfl) (by decide)
  obtain ⟨cl2, Ar2, aq2, aS2, aN2, aH2, aG2⟩ := id V_ti
  obtain ⟨cl3, Ar3, aq3, aS3, aN3, aH3, aG3⟩ := id V_va
  obtain ⟨T4, lo4, X4, N4, e4, st4⟩ := sV0 hw hx hby hml hZ hown hnm a ti ti_k va va_k ((3 : Int32)) ([(dV tu0), (dV tu1), (dV tu2)]) ([(dV vu0), (dV vu1), (dV vu2)]) tu0 vu0 X1 N0 e1 Z0 KC0 V_ti V_va (by decide) rfl rfl b_tu0 b_vu0 ov0
  obtain ⟨T5, lo5, X5, N5, e5, st5⟩ := sV1 hw hx hby hml hZ hown hnm a ti ti_k va va_k ((3 : Int32)) ([(dV tu0), (dV tu1), (dV tu2)]) ([(dV vu0), (dV vu1), (dV vu2)]) ((1 : Int32)) ((2 : Int32)) tu0 tu1 vu0 vu1 X4 N4 e4 Z0 KC0 V_ti V_va (by decide) (by decide) (by decide) (by decide) (by decide) rfl rfl rfl rfl b_tu0 b_tu1 b_vu0 b_vu1 ot1 ov1
  obtain ⟨T6, lo6, X6, N6, e6, st6⟩ := sV1 hw hx hby hml hZ hown hnm a ti ti_k va va_k ((3 : Int32)) ([(dV tu0), (dV tu1), (dV tu2)]) ([(dV vu0), (dV vu1), (dV vu2)]) ((2 : Int32)) ((3 : Int32)) tu1 tu2 vu1 vu2 X5 N5 e5 Z0 KC0 V_ti V_va (by decide) (by decide) (by decide) (by decide) (by decide) rfl rfl rfl rfl b_tu1 b_tu2 b_vu1 b_vu2 ot2 ov2
  obtain ⟨cl7, Ar7, aq7, aS7, aN7, aH7, aG7⟩ := id V_ti
  obtain ⟨T8, lo8, H8, al8, X8, N8, e8, Zs8, KC8, P8_0, P8_1, P8_2, P8_3, P8_4, P8_5, P8_6, P8_7, P8_8, P8_9, P8_10, o8_0, o8_1, o8_2, o8_3, o8_4, st8⟩ := sA hw hx hby hml hZ hown hnm a ti ti_k va va_k ((3 : Int32)) ([(dV tu0), (dV tu1), (dV tu2)]) ([(dV vu0), (dV vu1), (dV vu2)]) ((3 : Int32)) kB aE kE aC kC lC i0 i1 i2 X6 N6 e6 Z0 KC0 E_a F_times F_values F_instants F_lefts F_rights V_ti E_ti V_va E_va EN hkB k_a g_a ne_ti_a ne_va_a (by decide)
  obtain ⟨cl9, Ar9, aq9, aS9, aN9, aH9, aG9⟩ := id P8_4
  obtain ⟨_, _, ⟨T10, L10, k10, n10⟩, -, X10, ⟨Lc10, hQ10, l10, y10, z10⟩, st10⟩ := Jvm.LawKit.callS X8 hx (y := M10) hown (mvT hZ (tw82 hw)) (mvT hZ (tw83 hw)) (mvT hZ (tw84 hw)) (mvT hZ (tw85 hw)) (by decide) (backOf (W := 1) (rmV0 l Z a0 hw [] aC kC lC i0 H8 n0 Zs8 P8_6.sH P8_6.sC P8_6.vC P8_6.t0) hZ (tw85 hw) (tw84 hw) (by decide) (by decide)) (g := (mkF m 240 #[.val (.ref a), .val (.ref ti), .val (.ref va), .val (.ref al8), .val (.int (0 : Int32)), .unset, .unset] [(.int (0 : Int32)), (.ref al8)])) rfl (by rw [hml]; rfl) (argsL := [(.int (0 : Int32))]) (rest := [(.ref al8)]) (lenOf pd__I_Ljava_lang_Integer_ rfl) rfl (own_mr rfl) (hb hby d1_240) (fun _ _ => ⟨rfl, e8, (by decide : 3 + 0 ≤ _), (by decide : 9 + 0 ≤ _)⟩)
  dsimp only [Pt.U, Pt.locs, Pt.cells, Pt.slots] at X10 l10 y10 z10 st10 hQ10
  rw [l10, y10, z10] at X10
  obtain ⟨rfl, N10q, hh10⟩ := hQ10
  have N10 := Fr.app N8 N10q
  have lt11_0 := P8_0.lt
  have lt11_1 := P8_4.lt
  have lt11_2 := P8_5.lt
  have lt11_3 := P8_7.lt
  obtain ⟨cq12, kq12, q12a, q12b, q12c⟩ := isOf hZ hh10 P8_7
  obtain ⟨_, _, ⟨T12, L12, k12, n12⟩, -, X12, ⟨Lc12, hQ12, l12, y12, z12⟩, st12⟩ := X10.interfaceBack hx (xi := M19) (y := M9) hown (mvT hZ (tw89 hw)) (mvT hZ (tw90 hw)) (mvT hZ (tw91 hw)) (mvT hZ (tw92 hw)) (mvT hZ (tw93 hw)) (mvT hZ (tw94 hw)) (mvT hZ (tw95 hw)) (mvT hZ (tw54 hw)) (by decide) (backOf (W := 0) (rmA0 l Z a0 hw [] al8 aE kE i0 H8 n0 Zs8 P8_7 P8_8 P8_9 P8_10 P8_6.sD P8_6.vE o8_0 (own_ne2 P8_6.bE (Nat.le_trans hkB o8_1)) P8_6.e0) hZ (tw96 hw) (tw25 hw) (by decide) (by decide)) q12a q12b q12c (g := (mkF m 243 #[.val (.ref a), .val (.ref ti), .val (.ref va), .val (.ref al8), .val (.int (0 : Int32)), .unset, .unset] [(.ref i0), (.ref al8)])) rfl (by rw [hml]; rfl) (Steps.refl _) (argsL := [(.ref i0)]) (rest := []) (lenOf pd__Ljava_lang_Object__Z rfl) rfl (own_mr rfl) (hb hby d1_243) (fun _ _ => ⟨rfl, hh10, (by decide : 3 + 1 ≤ _), (by decide : 9 + 10 ≤ _)⟩)
  dsimp only [Pt.U, Pt.locs, Pt.cells, Pt.slots] at X12 l12 y12 z12 st12 hQ12
  rw [l12, y12, z12] at X12
  obtain ⟨b12, b_k12, rfl, N12q, K12, gb12, sb12, Ov_b_k12, P12_0, P12_1, P12_2, P12_3⟩ := hQ12
  have N12 := Fr.app N10 N12q
  have pl27_al8 := own_plain_Exa P8_7
  replace P8_0 := P8_0.keep K12
  replace P8_1 := P8_1.keep K12 (ninS o8_2 nin0)
  replace P8_2 := P8_2.keep K12 (ninS o8_2 nin0)
  replace P8_3 := P8_3.keep K12 (ninS o8_2 nin0)
  replace P8_4 := P8_4.keep K12 (ninS o8_3 nin0)
  replace P8_5 := P8_5.keep K12 (ninS o8_4 nin0)
  replace P8_6 := P8_6.keep K12 (allS (Nat.le_trans hkB o8_1) all0) (allS pl27_al8 all0)
  replace P8_7 := P8_7.keep K12
  have Zs13 := Nat.le_trans Zs8 K12.1
  have KC13 := KC8.trans K12 (allS (Or.inr o8_1) all0)
  have ne_a_b12 := own_ne2 lt11_0 sb12
  have ne_ti_b12 := own_ne2 lt11_1 sb12
  have ne_va_b12 := own_ne2 lt11_2 sb12
  have ne_al8_b12 := own_ne2 lt11_3 sb12
  have szb12 := Nat.le_trans KC8.1 sb12
  obtain ⟨cl14, Ar14, aq14, aS14, aN14, aH14, aG14⟩ := id P8_4
  obtain ⟨cl15, Ar15, aq15, aS15, aN15, aH15, aG15⟩ := id P8_4
  have hin16 : ¬ ((1 : Int32) < 0 ∨ cl15.slots.size ≤ ((1 : Int32)).toNatClampNeg) := inb_of aS15 ⟨by decide, by decide⟩
  have hat16 : cl15.slots[((1 : Int32)).toNatClampNeg]? = some (dV tu1) := Has.at aH15 hin16 rfl
  obtain ⟨cl17, Ar17, aq17, aS17, aN17, aH17, aG17⟩ := id P8_4
  have hin18 : ¬ ((0 : Int32) < 0 ∨ cl17.slots.size ≤ ((0 : Int32)).toNatClampNeg) := inb_of aS17 ⟨by decide, by decide⟩
  have hat18 : cl17.slots[((0 : Int32)).toNatClampNeg]? = some (dV tu0) := Has.at aH17 hin18 rfl
  have hk19 : tu0 < tu1 := ps1
  obtain ⟨_, _, ⟨T20, L20, k20, n20⟩, -, X20, ⟨Lc20, hQ20, l20, y20, z20⟩, st20⟩ := Jvm.LawKit.callS X12 hx (y := M10) hown (mvT hZ (tw82 hw)) (mvT hZ (tw83 hw)) (mvT hZ (tw84 hw)) (mvT hZ (tw85 hw)) (by decide) (backOf (W := 1) (rmV1 l Z a0 hw [] aC kC lC i1 T12.heap n0 Zs13 P8_6.sH P8_6.sC P8_6.vC P8_6.t1) hZ (tw85 hw) (tw84 hw) (by decide) (by decide)) (g := (mkF m 240 #[.val (.ref a), .val (.ref ti), .val (.ref va), .val (.ref al8), .val (.int (1 : Int32)), .unset, .unset] [(.int (1 : Int32)), (.ref al8)])) rfl (by rw [hml]; rfl) (argsL := [(.int (1 : Int32))]) (rest := [(.ref al8)]) (lenOf pd__I_Ljava_lang_Integer_ rfl) rfl (own_mr rfl) (hb hby d1_240) (fun _ _ => ⟨rfl, rfl, (by decide : 4 + 0 ≤ _), (by decide : 19 + 0 ≤ _)⟩)
  dsimp only [Pt.U, Pt.locs, Pt.cells, Pt.slots] at X20 l20 y20 z20 st20 hQ20
  rw [l20, y20, z20] at X20
  obtain ⟨rfl, N20q, hh20⟩ := hQ20
  have N20 := Fr.app N12 N20q
  obtain ⟨cq22, kq22, q22a, q22b, q22c⟩ := isOf hZ hh20 P8_7
  obtain ⟨_, _, ⟨T22, L22, k22, n22⟩, -, X22, ⟨Lc22, hQ22, l22, y22, z22⟩, st22⟩ := X20.interfaceBack hx (xi := M19) (y := M9) hown (mvT hZ (tw89 hw)) (mvT hZ (tw90 hw)) (mvT hZ (tw91 hw)) (mvT hZ (tw92 hw)) (mvT hZ (tw93 hw)) (mvT hZ (tw94 hw)) (mvT hZ (tw95 hw)) (mvT hZ (tw54 hw)) (by decide) (backOf (W := 0) (rmA1 l Z a0 hw [] al8 b12 b_k12 i1 i0 T12.heap n0 Zs13 P8_7 P12_0 P12_1 P12_2 P12_3 Ov_b_k12 o8_0 gb12 (Ne.symm ne_al8_b12) P8_6.e1) hZ (tw96 hw) (tw25 hw) (by decide) (by decide)) q22a q22b q22c (g := (mkF m 243 #[.val (.ref a), .val (.ref ti), .val (.ref va), .val (.ref al8), .val (.int (1 : Int32)), .unset, .unset] [(.ref i1), (.ref al8)])) rfl (by rw [hml]; rfl) (Steps.refl _) (argsL := [(.ref i1)]) (rest := []) (lenOf pd__Ljava_lang_Object__Z rfl) rfl (own_mr rfl) (hb hby d1_243) (fun _ _ => ⟨rfl, hh20, (by decide : 4 + 0 ≤ _), (by decide : 19 + 0 ≤ _)⟩)
  dsimp only [Pt.U, Pt.locs, Pt.cells, Pt.slots] at X22 l22 y22 z22 st22 hQ22
  rw [l22, y22, z22] at X22
  obtain ⟨rfl, N22q, K22, P22_0, P22_1, P22_2, P22_3⟩ := hQ22
  have N22 := Fr.app N20 N22q
  have pl50_al8 := own_plain_Exa P8_7
  have pl50_b12 := own_plain_Arv P12_3
  replace P8_0 := P8_0.keep K22
  replace P8_1 := P8_1.keep K22 (ninS o8_2 (ninS ne_a_b12 nin0))
  replace P8_2 := P8_2.keep K22 (ninS o8_2 (ninS ne_a_b12 nin0))
  replace P8_3 := P8_3.keep K22 (ninS o8_2 (ninS ne_a_b12 nin0))
  replace P8_4 := P8_4.keep K22 (ninS o8_3 (ninS ne_ti_b12 nin0))
  replace P8_5 := P8_5.keep K22 (ninS o8_4 (ninS ne_va_b12 nin0))
  replace P8_6 := P8_6.keep K22 (allS (Nat.le_trans hkB o8_1) (allS (Nat.le_trans hkB szb12) all0)) (allS pl50_al8 (allS pl50_b12 all0))
  replace P8_7 := P8_7.keep K22
  have Zs23 := Nat.le_trans Zs13 K22.1
  have KC23 := KC13.trans K22 (allS (Or.inr o8_1) (allS (Or.inr szb12) all0))
  have pre24 : Pr p e below I0 T22 (mkF m 248 #[.val (.ref a), .val (.ref ti), .val (.ref va), .val (.ref al8), .val (.int (1 : Int32)), .unset, .unset] [(.int (1 : Int32))]) := by
   intro tg kk
   refine pre0 tg ?_
   refine XS.aloadN X0.here hx rfl (hb hby d1_0) rfl rfl ?_
   refine st1 _ ?_
   refine XS.aloadN X1.here hx rfl (hb hby d1_4) rfl rfl ?_
   refine X1.arraylength hx (by rw [e1]; exact Ar2.1) (State.isArrayOf_alike hZ.alike Ar2.2.1) (g := (mkF m 5 #[.val (.ref a), .val (.ref ti), .val (.ref va), .unset, .unset, .unset, .unset] [(.ref ti)])) rfl rfl (hb hby d1_5) _ ?_
   rw [len_of aS2 aN2]
   refine XS.aloadN X1.here hx rfl (hb hby d1_6) rfl rfl ?_
   refine X1.arraylength hx (by rw [e1]; exact Ar3.1) (State.isArrayOf_alike hZ.alike Ar3.2.1) (g := (mkF m 7 #[.val (.ref a), .val (.ref ti), .val (.ref va), .unset, .unset, .unset, .unset] [(.ref va), (.int (3 : Int32))])) rfl rfl (hb hby d1_7) _ ?_
   rw [len_of aS3 aN3]
   refine XS.icmpYes X1.here hx rfl (pc0 := 8) (pc' := 28) rfl (hb hby d1_8) rfl (XT.ii_eq_t (by decide)) (by decide) (by decide) ?_
   refine XS.iconst X1.here hx rfl (hb hby d1_28) ?_
   refine XS.istoreN X1.here hx rfl (hb hby d1_29) rfl (l' := #[.val (.ref a), .val (.ref ti), .val (.ref va), .val (.int (0 : Int32)), .unset, .unset, .unset]) rfl ?_
   refine st4 _ ?_
   refine st5 _ ?_
   refine st6 _ ?_
   refine XS.iloadN X6.here hx rfl (hb hby d1_30) rfl ?_
   refine XS.aloadN X6.here hx rfl (hb hby d1_31) rfl rfl ?_
   refine X6.arraylength hx (by rw [e6]; exact Ar7.1) (State.isArrayOf_alike hZ.alike Ar7.2.1) (g := (mkF m 32 #[.val (.ref a), .val (.ref ti), .val (.ref va), .val (.int (3 : Int32)), .unset, .unset, .unset] [(.ref ti), (.int (3 : Int32))])) rfl rfl (hb hby d1_32) _ ?_
   rw [len_of aS7 aN7]
   refine XS.icmpYes X6.here hx rfl (pc0 := 33) (pc' := 178) rfl (hb hby d1_33) rfl (XT.ii_ge_t (by decide)) (by decide) (by decide) ?_
   refine st8 _ ?_
   refine XS.iload X8.here hx rfl (hb hby d1_211) rfl ?_
   refine XS.aloadN X8.here hx rfl (hb hby d1_213) rfl rfl ?_
   refine X8.arraylength hx (by rw [e8]; exact Ar9.1) (State.isArrayOf_alike hZ.alike Ar9.2.1) (g := (mkF m 214 #[.val (.ref a), .val (.ref ti), .val (.ref va), .val (.ref al8), .val (.int (0 : Int32)), .unset, .unset] [(.ref ti), (.int (0 : Int32))])) rfl rfl (hb hby d1_214) _ ?_
   rw [len_of aS9 aN9]
   refine XS.icmpNo X8.here hx rfl (hb hby d1_215) rfl (XT.ii_ge_f (by decide)) ?_
   refine XS.iload X8.here hx rfl (hb hby d1_218) rfl ?_
   refine XS.ifYes X8.here hx rfl (pc0 := 220) (pc' := 237) rfl (hb hby d1_220) rfl (XT.i0_eq_t (by decide)) (by decide) (by decide) ?_
   refine XS.aloadN X8.here hx rfl (hb hby d1_237) rfl rfl ?_
   refine XS.iload X8.here hx rfl (hb hby d1_238) rfl ?_
   refine st10 _ ?_
   refine st12.trans ?_
   refine XS.pop X12.here hx rfl (hb hby d1_248) rfl rfl ?_
   refine XS.iinc X12.here hx rfl (hb hby d1_249) rfl (l' := #[.val (.ref a), .val (.ref ti), .val (.ref va), .val (.ref al8), .val (.int (1 : Int32)), .unset, .unset]) rfl ?_
   refine XS.goto X12.here hx rfl (pc0 := 252) (pc' := 211) rfl (hb hby d1_252) (by decide) (by decide) ?_
   refine XS.iload X12.here hx rfl (hb hby d1_211) rfl ?_
   refine XS.aloadN X12.here hx rfl (hb hby d1_213) rfl rfl ?_
   refine X12.arraylength hx Ar14.1 (State.isArrayOf_alike hZ.alike Ar14.2.1) (g := (mkF m 214 #[.val (.ref a), .val (.ref ti), .val (.ref va), .val (.ref al8), .val (.int (1 : Int32)), .unset, .unset] [(.ref ti), (.int (1 : Int32))])) rfl rfl (hb hby d1_214) _ ?_
   rw [len_of aS14 aN14]
   refine XS.icmpNo X12.here hx rfl (hb hby d1_215) rfl (XT.ii_ge_f (by decide)) ?_
   refine XS.iload X12.here hx rfl (hb hby d1_218) rfl ?_
   refine XS.ifNo X12.here hx rfl (hb hby d1_220) rfl (XT.i0_eq_f (by decide)) ?_
   refine XS.aloadN X12.here hx rfl (hb hby d1_223) rfl rfl ?_
   refine XS.iload X12.here hx rfl (hb hby d1_224) rfl ?_
   refine X12.daload hx (j := (1 : Int32)) (v := (dV tu1)) Ar15.1 (State.isArrayOf_alike hZ.alike Ar15.2.1) Ar15.2.2 hin16 hat16 (g := (mkF m 226 #[.val (.ref a), .val (.ref ti), .val (.ref va), .val (.ref al8), .val (.int (1 : Int32)), .unset, .unset] [(.int (1 : Int32)), (.ref ti)])) rfl rfl (hb hby d1_226) _ ?_
   refine XS.aloadN X12.here hx rfl (hb hby d1_227) rfl rfl ?_
   refine XS.iload X12.here hx rfl (hb hby d1_228) rfl ?_
   refine XS.iconst X12.here hx rfl (hb hby d1_230) ?_
   refine XS.isub X12.here hx rfl (hb hby d1_231) rfl ?_
   refine X12.daload hx (j := (0 : Int32)) (v := (dV tu0)) Ar17.1 (State.isArrayOf_alike hZ.alike Ar17.2.1) Ar17.2.2 hin18 hat18 (g := (mkF m 232 #[.val (.ref a), .val (.ref ti), .val (.ref va), .val (.ref al8), .val (.int (1 : Int32)), .unset, .unset] [(.int (0 : Int32)), (.ref ti), (dV tu1)])) rfl rfl (hb hby d1_232) _ ?_
   refine XS.dcmpS X12.here hx rfl (hb hby d1_233) rfl (dcmpV_w b_tu1 b_tu0 _) ?_
   refine XS.ifNo X12.here hx rfl (hb hby d1_234) rfl (XT.ll_le_f hk19) ?_
   refine XS.aloadN X12.here hx rfl (hb hby d1_237) rfl rfl ?_
   refine XS.iload X12.here hx rfl (hb hby d1_238) rfl ?_
   refine st20 _ ?_
   refine st22.trans ?_
   exact kk
  exact ⟨T22, _, T22.heap, al8, b12, b_k12, X22, N22, rfl, Zs23, KC23, P8_0, P8_1, P8_2, P8_3, P8_4, P8_5, P8_6, P8_7, P22_0, P22_1, P22_2, P22_3, Ov_b_k12, o8_0, gb12, o8_1, szb12, o8_2, o8_3, o8_4, ne_a_b12, ne_ti_b12, ne_va_b12, ne_al8_b12, pre24⟩
 clear pre0 X0 N0 e0 KC0 Z0 E_a F_times F_values F_instants F_lefts F_rights V_ti E_ti V_va E_va EN
 obtain ⟨cl26, Ar26, aq26, aS26, aN26, aH26, aG26⟩ := id P8_4_c25
 obtain ⟨cl27, Ar27, aq27, aS27, aN27, aH27, aG27⟩ := id P8_4_c25
 have hin28 : ¬ ((2 : Int32) < 0 ∨ cl27.slots.size ≤ ((2 : Int32)).toNatClampNeg) := inb_of aS27 ⟨by decide, by decide⟩
 have hat28 : cl27.slots[((2 : Int32)).toNatClampNeg]? = some (dV tu2) := Has.at aH27 hin28 rfl
 obtain ⟨cl29, Ar29, aq29, aS29, aN29, aH29, aG29⟩ := id P8_4_c25
 have hin30 : ¬ ((1 : Int32) < 0 ∨ cl29.slots.size ≤ ((1 : Int32)).toNatClampNeg) := inb_of aS29 ⟨by decide, by decide⟩
 have hat30 : cl29.slots[((1 : Int32)).toNatClampNeg]? = some (dV tu1) := Has.at aH29 hin30 rfl
 have hk31 : tu1 < tu2 := ps2
 obtain ⟨_, _, ⟨T32, L32, k32, n32⟩, -, X32, ⟨Lc32, hQ32, l32, y32, z32⟩, st32⟩ := Jvm.LawKit.callS X25 hx (y := M10) hown (mvT hZ (tw82 hw)) (mvT hZ (tw83 hw)) (mvT hZ (tw84 hw)) (mvT hZ (tw85 hw)) (by decide) (backOf (W := 1) (rmV2 l Z a0 hw [] aC kC lC i2 Hc25 n0 Zs25 P8_6_c25.sH P8_6_c25.sC P8_6_c25.vC P8_6_c25.t2) hZ (tw85 hw) (tw84 hw) (by decide) (by decide)) (g := (mkF m 240 #[.val (.ref a), .val (.ref ti), .val (.ref va), .val (.ref al8), .val (.int (2 : Int32)), .unset, .unset] [(.int (2 : Int32)), (.ref al8)])) rfl (by rw [hml]; rfl) (argsL := [(.int (2 : Int32))]) (rest := [(.ref al8)]) (lenOf pd__I_Ljava_lang_Integer_ rfl) rfl (own_mr rfl) (hb hby d1_240) (fun _ _ => ⟨rfl, e25, (by decide : 4 + 0 ≤ _), (by decide : 19 + 0 ≤ _)⟩)
 dsimp only [Pt.U, Pt.locs, Pt.cells, Pt.slots] at X32 l32 y32 z32 st32 hQ32
 rw [l32, y32, z32] at X32
 obtain ⟨rfl, N32q, hh32⟩ := hQ32
 have N32 := Fr.app N25 N32q
 obtain ⟨cq34, kq34, q34a, q34b, q34c⟩ := isOf hZ hh32 P8_7_c25
 obtain ⟨_, _, ⟨T34, L34, k34, n34⟩, -, X34, ⟨Lc34, hQ34, l34, y34, z34⟩, st34⟩ := X32.interfaceBack hx (xi := M19) (y := M9) hown (mvT hZ (tw89 hw)) (mvT hZ (tw90 hw)) (mvT hZ (tw91 hw)) (mvT hZ (tw92 hw)) (mvT hZ (tw93 hw)) (mvT hZ (tw94 hw)) (mvT hZ (tw95 hw)) (mvT hZ (tw54 hw)) (by decide) (backOf (W := 0) (rmA2 l Z a0 hw [] al8 b12 b_k12 i2 i0 i1 Hc25 n0 Zs25 P8_7_c25 P22_0_c25 P22_1_c25 P22_2_c25 P22_3_c25 Ovc25_b_k12 gnc25_1 gnc25_2 (Ne.symm nesc25_8) P8_6_c25.e2) hZ (tw96 hw) (tw25 hw) (by decide) (by decide)) q34a q34b q34c (g := (mkF m 243 #[.val (.ref a), .val (.ref ti), .val (.ref va), .val (.ref al8), .val (.int (2 : Int32)), .unset, .unset] [(.ref i2), (.ref al8)])) rfl (by rw [hml]; rfl) (Steps.refl _) (argsL := [(.ref i2)]) (rest := []) (lenOf pd__Ljava_lang_Object__Z rfl) rfl (own_mr rfl) (hb hby d1_243) (fun _ _ => ⟨rfl, hh32, (by decide : 4 + 0 ≤ _), (by decide : 19 + 0 ≤ _)⟩)
 dsimp only [Pt.U, Pt.locs, Pt.cells, Pt.slots] at X34 l34 y34 z34 st34 hQ34
 rw [l34, y34, z34] at X34
 obtain ⟨rfl, N34q, K34, -, P34_1, P34_2, P34_3⟩ := hQ34
 have N34 := Fr.app N32 N34q
 have pl73_al8 := own_plain_Exa P8_7_c25
 have pl73_b12 := own_plain_Arv P22_3_c25
 replace P8_0_c25 := P8_0_c25.keep K34
 replace P8_1_c25 := P8_1_c25.keep K34 (ninS nesc25_2 (ninS nesc25_5 nin0))
 replace P8_2_c25 := P8_2_c25.keep K34 (ninS nesc25_2 (ninS nesc25_5 nin0))
 replace P8_3_c25 := P8_3_c25.keep K34 (ninS nesc25_2 (ninS nesc25_5 nin0))
 replace P8_4_c25 := P8_4_c25.keep K34 (ninS nesc25_3 (ninS nesc25_6 nin0))
 replace P8_5_c25 := P8_5_c25.keep K34 (ninS nesc25_4 (ninS nesc25_7 nin0))
 replace P8_6_c25 := P8_6_c25.keep K34 (allS (Nat.le_trans hkB szc25_0) (allS (Nat.le_trans hkB szc25_1) all0)) (allS pl73_al8 (allS pl73_b12 all0))
 replace P8_7_c25 := P8_7_c25.keep K34
 have Zs35 := Nat.le_trans Zs25 K34.1
 have KC35 := KC25.trans K34 (allS (Or.inr szc25_0) (allS (Or.inr szc25_1) all0))
 obtain ⟨cl36, Ar36, aq36, aS36, aN36, aH36, aG36⟩ := id P8_4_c25
 obtain ⟨T37, lo37, H37, di37, di_k37, dl37, dl_k37, dr37, dr_k37, X37, N37, e37, Zs37, KC37, P37_0, P37_1, P37_2, P37_3, P37_4, P37_5, P37_6, o37_0, o37_1, o37_2, o37_3, o37_4, o37_5, st37⟩ := sC3 hw hx hby hml hZ hown hnm a ti ti_k va va_k ((3 : Int32)) ([(dV tu0), (dV tu1), (dV tu2)]) ([(dV vu0), (dV vu1), (dV vu2)]) ((3 : Int32)) al8 b12 b_k12 i0 i1 i2 ((0 : Int32)) ((1 : Int32)) ((2 : Int32)) tu0 tu1 tu2 vu1 vu2 vu0 vu1 vu2 X34 N34 rfl Zs35 KC35 P8_0_c25 P8_1_c25 P8_2_c25 P8_3_c25 P8_4_c25 P8_5_c25 P8_7_c25 P34_1 P34_2 P34_3 P8_6_c25.e0 P8_6_c25.e1 P8_6_c25.e2 P8_6_c25.f0 P8_6_c25.f1 P8_6_c25.f2 g_a ne_ti_a ne_va_a (Ne.symm nesc25_2) (Ne.symm nesc25_5) (own_ne2 P8_6_c25.b0 k_a) (own_ne2 P8_6_c25.b1 k_a) (own_ne2 P8_6_c25.b2 k_a) (by decide) rfl (by decide) rfl (by decide) rfl (by decide) rfl rfl (by decide) rfl (by decide) rfl rfl
 obtain ⟨fs, hr, hrun, hended, hW, hsame⟩ := X37.leave (v := none) (fun _ => rfl)
 refine ⟨_, _, pre25 _ ?_, hrun, hended, _, _, rfl, ?_, ⟨_, rfl⟩, hW, hsame.mono (by decide) (by decide)⟩
 ·skip
  refine XS.pop X25.here hx rfl (hb hby d1_248) rfl rfl ?_
  refine XS.iinc X25.here hx rfl (hb hby d1_249) rfl (l' := #[.val (.ref a), .val (.ref ti), .val (.ref va), .val (.ref al8), .val (.int (2 : Int32)), .unset, .unset]) rfl ?_
  refine XS.goto X25.here hx rfl (pc0 := 252) (pc' := 211) rfl (hb hby d1_252) (by decide) (by decide) ?_
  refine XS.iload X25.here hx rfl (hb hby d1_211) rfl ?_
  refine XS.aloadN X25.here hx rfl (hb hby d1_213) rfl rfl ?_
  refine X25.arraylength hx (by rw [e25]; exact Ar26.1) (State.isArrayOf_alike hZ.alike Ar26.2.1) (g := (mkF m 214 #[.val (.ref a), .val (.ref ti), .val (.ref va), .val (.ref al8), .val (.int (2 : Int32)), .unset, .unset] [(.ref ti), (.int (2 : Int32))])) rfl rfl (hb hby d1_214) _ ?_
  rw [len_of aS26 aN26]
  refine XS.icmpNo X25.here hx rfl (hb hby d1_215) rfl (XT.ii_ge_f (by decide)) ?_
  refine XS.iload X25.here hx rfl (hb hby d1_218) rfl ?_
  refine XS.ifNo X25.here hx rfl (hb hby d1_220) rfl (XT.i0_eq_f (by decide)) ?_
  refine XS.aloadN X25.here hx rfl (hb hby d1_223) rfl rfl ?_
  refine XS.iload X25.here hx rfl (hb hby d1_224) rfl ?_
  refine X25.daload hx (j := (2 : Int32)) (v := (dV tu2)) (by rw [e25]; exact Ar27.1) (State.isArrayOf_alike hZ.alike Ar27.2.1) Ar27.2.2 hin28 hat28 (g := (mkF m 226 #[.val (.ref a), .val (.ref ti), .val (.ref va), .val (.ref al8), .val (.int (2 : Int32)), .unset, .unset] [(.int (2 : Int32)), (.ref ti)])) rfl rfl (hb hby d1_226) _ ?_
  refine XS.aloadN X25.here hx rfl (hb hby d1_227) rfl rfl ?_
  refine XS.iload X25.here hx rfl (hb hby d1_228) rfl ?_
  refine XS.iconst X25.here hx rfl (hb hby d1_230) ?_
  refine XS.isub X25.here hx rfl (hb hby d1_231) rfl ?_
  refine X25.daload hx (j := (1 : Int32)) (v := (dV tu1)) (by rw [e25]; exact Ar29.1) (State.isArrayOf_alike hZ.alike Ar29.2.1) Ar29.2.2 hin30 hat30 (g := (mkF m 232 #[.val (.ref a), .val (.ref ti), .val (.ref va), .val (.ref al8), .val (.int (2 : Int32)), .unset, .unset] [(.int (1 : Int32)), (.ref ti), (dV tu2)])) rfl rfl (hb hby d1_232) _ ?_
  refine XS.dcmpS X25.here hx rfl (hb hby d1_233) rfl (dcmpV_w b_tu2 b_tu1 _) ?_
  refine XS.ifNo X25.here hx rfl (hb hby d1_234) rfl (XT.ll_le_f hk31) ?_
  refine XS.aloadN X25.here hx rfl (hb hby d1_237) rfl rfl ?_
  refine XS.iload X25.here hx rfl (hb hby d1_238) rfl ?_
  refine st32 _ ?_
  refine st34.trans ?_
  refine XS.pop X34.here hx rfl (hb hby d1_248) rfl rfl ?_
  refine XS.iinc X34.here hx rfl (hb hby d1_249) rfl (l' := #[.val (.ref a), .val (.ref ti), .val (.ref va), .val (.ref al8), .val (.int (3 : Int32)), .unset, .unset]) rfl ?_
  refine XS.goto X34.here hx rfl (pc0 := 252) (pc' := 211) rfl (hb hby d1_252) (by decide) (by decide) ?_
  refine XS.iload X34.here hx rfl (hb hby d1_211) rfl ?_
  refine XS.aloadN X34.here hx rfl (hb hby d1_213) rfl rfl ?_
  refine X34.arraylength hx Ar36.1 (State.isArrayOf_alike hZ.alike Ar36.2.1) (g := (mkF m 214 #[.val (.ref a), .val (.ref ti), .val (.ref va), .val (.ref al8), .val (.int (3 : Int32)), .unset, .unset] [(.ref ti), (.int (3 : Int32))])) rfl rfl (hb hby d1_214) _ ?_
  rw [len_of aS36 aN36]
  refine XS.icmpYes X34.here hx rfl (pc0 := 215) (pc' := 255) rfl (hb hby d1_215) rfl (XT.ii_ge_t (by decide)) (by decide) (by decide) ?_
  refine st37 _ ?_
  exact X37.returnOut hx Bd.returns (hb hby d1_409) hr
 ·show QC3tt Z a ti ti_k va va_k kB aE kE aC kC lC i0 i1 i2 tu0 tu1 tu2 vu0 vu1 vu2 h0 n0 _ T37.heap _
  rw [e37]
  exact ⟨di37, di_k37, dl37, dl_k37, dr37, dr_k37, rfl, N37, KC37, o37_0, o37_1, o37_2, o37_3, o37_4, o37_5, P37_0, P37_1, P37_2, P37_3, P37_4, P37_5, P37_6⟩
def QC3tf (Z : State) (a : Addr) (ti : Addr) (ti_k : ClassId) (va : Addr) (va_k : ClassId) (kB : Nat) (aE : Addr) (kE : ClassId) (aC : Addr) (kC : ClassId) (lC : List Value) (i0 : Addr) (i1 : Addr) (i2 : Addr) (tu0 : Int64) (tu1 : Int64) (tu2 : Int64) (vu0 : Int64) (vu1 : Int64) (vu2 : Int64) (h0 : Heap) (n0 : Nat) (v : Option Value) (h : Heap) (L : List Loc) : Prop := ∃ (di : Addr) (di_k : ClassId) (dl : Addr) (dl_k : ClassId) (dr : Addr) (dr_k : ClassId), v = none ∧ Fr n0 L ∧ Keep h0 h [a] ∧ n0 ≤ di ∧ h0.size ≤ di ∧ n0 ≤ dl ∧ h0.size ≤ dl ∧ n0 ≤ dr ∧ h0.size ≤ dr ∧ Exa Z h a cF ∧ Fld Z h a cF "instants" "[D" (.ref di) ∧ Fld Z h a cF "lefts" "[D" (.ref dl) ∧ Fld Z h a cF "rights" "[D" (.ref dr) ∧ Arv Z h di di_k .double (2 : Int32) [(dV tu0), (dV tu1)] dZ ∧ Arv Z h dl dl_k .double (2 : Int32) [dZ, (dV vu1)] dZ ∧ Arv Z h dr dr_k .double (2 : Int32) [(dV vu0), (dV vu2)] dZ
set_option maxRecDepth 65536 in
set_option maxHeartbeats 40000000 in
theorem rmC3tf (l : Launch) (Z : State) (a0 : Array Value) (hw : HW a0 Z) (ws : List Jvm.Cond) (a : Addr) (ti : Addr) (ti_k : ClassId) (va : Addr) (va_k : ClassId) (kB : Nat) (aE : Addr) (kE : ClassId) (aC : Addr) (kC : ClassId) (lC : List Value) (i0 : Addr) (i1 : Addr) (i2 : Addr) (tu0 : Int64) (tu1 : Int64) (tu2 : Int64) (vu0 : Int64) (vu1 : Int64) (vu2 : Int64) (h0 : Heap) (n0 : Nat) (Z0 : n0 ≤ h0.size) (E_a : Exa Z h0 a cF) (F_times : Fld Z h0 a cF "times" "[D" .null) (F_values : Fld Z h0 a cF "values" "[D" .null) (F_instants : Fld Z h0 a cF "instants" "[D" .null) (F_lefts : Fld Z h0 a cF "lefts" "[D" .null) (F_rights : Fld Z h0 a cF "rights" "[D" .null) (V_ti : Arv Z h0 ti ti_k .double (3 : Int32) [(dV tu0), (dV tu1), (dV tu2)] dZ) (E_ti : Exa Z h0 ti "[D") (V_va : Arv Z h0 va va_k .double (3 : Int32) [(dV vu0), (dV vu1), (dV vu2)] dZ) (E_va : Exa Z h0 va "[D") (EN : EnvJ Z kB h0 aE kE aC kC lC i0 i1 i2) (hkB : kB ≤ h0.size) (k_a : kB ≤ a) (g_a : n0 ≤ a) (ne_ti_a : ti ≠ a) (ne_va_a : va ≠ a) (b_tu0 : B53 tu0) (b_tu1 : B53 tu1) (b_tu2 : B53 tu2) (b_vu0 : B53 vu0) (b_vu1 : B53 vu1) (b_vu2 : B53 vu2) (ov0 : ¬ vu0 < (0 : Int64)) (ot1 : ¬ tu1 < tu0) (ov1 : ¬ vu1 < vu0) (ps1 : tu0 < tu1) (ot2 : ¬ tu2 < tu1) (ov2 : ¬ vu2 < vu1) (ps2 : ¬ tu1 < tu2) :
    MetFree l M18 (head1 (Jvm.Cond.code M18 prog_37_method_1_code 7 none :: ws) R5_7_28_108) (fun ar UU => ar = #[(.ref a), (.ref ti), (.ref va)] ∧ Z.Warmed39 UU.vm ∧ UU.heap = h0) (fun _ _ _ _ _ => True) (fun _ UU oo UU' => ∃ vv LL, oo = .returned vv ∧ QC3tf Z a ti ti_k va va_k kB aE kE aC kC lC i0 i1 i2 tu0 tu1 tu2 vu0 vu1 vu2 h0 n0 vv UU'.heap LL ∧ FrameEnd UU oo UU' LL R5_7_28_108.cells R5_7_28_108.slots) := by
 refine MetFree.of_bodySF (plainFor_of_name pn_1) hisR ?_
 intro p e s m args below meth c s₁ Bd hml0 hP hK
 obtain ⟨rfl, hZ, hh⟩ := hP
 have hx := Bd.exec
 have hby := Bd.bytes
 have hml : c.maxLocals = 7 := hml0
 have hown : s.vm.findClass "com/example/narrow_bound/narrowbound/witness/CumulativeFunction" = some m.cls := findClass_of_methodNamed Bd.named
 have hnm := (name_of_methodNamed Bd.named Bd.method).1
 have X0 : Stand p l e R5_7_28_108 s m #[(.ref a), (.ref ti), (.ref va)] below meth c s₁ [] 0 0 := Stand.of_body Bd
 have e0 : s₁.heap = h0 := by rw [← hh, Bd.state]; rfl
 have N0 := Fr.nil n0
 have KC0 : Keep h0 h0 [a] := Keep.refl h0 [a]
 have pre0 : ∀ tgt, Steps p.tables e below (s₁.setTop (mkF m 0 #[.val (.ref a), .val (.ref ti), .val (.ref va), .unset, .unset, .unset, .unset] [])) tgt → Steps p.tables e below (s₁.setTop (entryFrame m #[(.ref a), (.ref ti), (.ref va)] 7)) tgt := fun tgt kk => castTop (ef1_RRR m (a) (ti) (va)) kk
 generalize hI : s₁.setTop (entryFrame m #[(.ref a), (.ref ti), (.ref va)] 7) = I0 at pre0 ⊢
 obtain ⟨T25, lo25, Hc25, al8, b12, b_k12, X25, N25, e25, Zs25, KC25, P8_0_c25, P8_1_c25, P8_2_c25, P8_3_c25, P8_4_c25, P8_5_c25, P8_6_c25, P8_7_c25, P22_1_c25, P22_2_c25, P22_3_c25, Ovc25_b_k12, gnc25_1, gnc25_2, szc25_0, szc25_1, nesc25_2, nesc25_3, nesc25_4, nesc25_5, nesc25_6, nesc25_7, nesc25_8, pre25⟩ : ∃ (T25 : State) (lo25 : List Loc) (Hc25 : Heap) (al8 : Addr) (b12 : Addr) (b_k12 : ClassId), Stand p l e R5_7_28_108 s m #[(.ref a), (.ref ti), (.ref va)] below meth c T25 lo25 4 19 ∧ Fr n0 lo25 ∧ T25.heap = Hc25 ∧ n0 ≤ Hc25.size ∧ Keep h0 Hc25 [a] ∧ Exa Z Hc25 a cF ∧ Fld Z Hc25 a cF "instants" "[D" .null ∧ Fld Z Hc25 a cF "lefts" "[D" .null ∧ Fld Z Hc25 a cF "rights" "[D" .null ∧ Arv Z Hc25 ti ti_k .double (3 : Int32) [(dV tu0), (dV tu1), (dV tu2)] dZ ∧ Arv Z Hc25 va va_k .double (3 : Int32) [(dV vu0), (dV vu1), (dV vu2)] dZ ∧ EnvJ Z kB Hc25 aE kE aC kC lC i0 i1 i2 ∧ Exa Z Hc25 al8 aL ∧ Fld Z Hc25 al8 aL "size" "I" (.int (2 : Int32)) ∧ Fld Z Hc25 al8 aL "elementData" lO (.ref b12) ∧ Arv Z Hc25 b12 b_k12 (.object "java/lang/Object") (10 : Int32) [(.ref i0), (.ref i1), .null, .null, .null, .null, .null, .null, .null, .null] .null ∧ Ovr Z b_k12 "java/lang/Object" ∧ n0 ≤ al8 ∧ n0 ≤ b12 ∧ h0.size ≤ al8 ∧ h0.size ≤ b12 ∧ a ≠ al8 ∧ ti ≠ al8 ∧ va ≠ al8 ∧ a ≠ b12 ∧ ti ≠ b12 ∧ va ≠ b12 ∧ al8 ≠ b12 ∧ Pr p e below I0 T25 (mkF m 248 #[.val (.ref a), .val (.ref ti), .val (.ref va), .val (.ref al8), .val (.int (1 : Int32)), .unset, .unset] [(.int (1 : Int32))]) := by
  obtain ⟨T1, X1, e1, st1⟩ := initO X0 hx hZ hown (tw7 hw) (tw8 hw) (tw9 hw) e0 (g := (mkF m 1 #[.val (.ref a), .val (.ref ti), .val (.ref va), .unset, .unset, .unset, .unset] [(.ref a)])) rfl (by rw [hml]; rfl) rfl (hb hby d1_1) (by decide) (W := 0) (own_mr rfl) (by decide)
  obtain ⟨cl2, Ar2, aq2, aS2, aN2, aH2, aG2⟩ := id V_ti
  obtain ⟨cl3, Ar3, aq3, aS3, aN3, aH3, aG3⟩ := id V_va
  obtain ⟨T4, lo4, X4, N4, e4, st4⟩ := sV0 hw hx hby hml hZ hown hnm a ti ti_k va va_k ((3 : Int32)) ([(dV tu0), (dV tu1), (dV tu2)]) ([(dV vu0), (dV vu1), (dV vu2)]) tu0 vu0 X1 N0 e1 Z0 KC0 V_ti V_va (by decide) rfl rfl b_tu0 b_vu0 ov0
  obtain ⟨T5, lo5, X5, N5, e5, st5⟩ := sV1 hw hx hby hml hZ hown hnm a ti ti_k va va_k ((3 : Int32)) ([(dV tu0), (dV tu1), (dV tu2)]) ([(dV vu0), (dV vu1), (dV vu2)]) ((1 : Int32)) ((2 : Int32)) tu0 tu1 vu0 vu1 X4 N4 e4 Z0 KC0 V_ti V_va (by decide) (by decide) (by decide) (by decide) (by decide) rfl rfl rfl rfl b_tu0 b_tu1 b_vu0 b_vu1 ot1 ov1
  obtain ⟨T6, lo6, X6, N6, e6, st6⟩ := sV1 hw hx hby hml hZ hown hnm a ti ti_k va va_k ((3 : Int32)) ([(dV tu0), (dV tu1), (dV tu2)]) ([(dV vu0), (dV vu1), (dV vu2)]) ((2 : Int32)) ((3 : Int32)) tu1 tu2 vu1 vu2 X5 N5 e5 Z0 KC0 V_ti V_va (by decide) (by decide) (by decide) (by decide) (by decide) rfl rfl rfl rfl b_tu1 b_tu2 b_vu1 b_vu2 ot2 ov2
  obtain ⟨cl7, Ar7, aq7, aS7, aN7, aH7, aG7⟩ := id V_ti
  obtain ⟨T8, lo8, H8, al8, X8, N8, e8, Zs8, KC8, P8_0, P8_1, P8_2, P8_3, P8_4, P8_5, P8_6, P8_7, P8_8, P8_9, P8_10, o8_0, o8_1, o8_2, o8_3, o8_4, st8⟩ := sA hw hx hby hml hZ hown hnm a ti ti_k va va_k ((3 : Int32)) ([(dV tu0), (dV tu1), (dV tu2)]) ([(dV vu0), (dV vu1), (dV vu2)]) ((3 : Int32)) kB aE kE aC kC lC i0 i1 i2 X6 N6 e6 Z0 KC0 E_a F_times F_values F_instants F_lefts F_rights V_ti E_ti V_va E_va EN hkB k_a g_a ne_ti_a ne_va_a (by decide)
  obtain ⟨cl9, Ar9, aq9, aS9, aN9, aH9, aG9⟩ := id P8_4
  obtain ⟨_, _, ⟨T10, L10, k10, n10⟩, -, X10, ⟨Lc10, hQ10, l10, y10, z10⟩, st10⟩ := Jvm.LawKit.callS X8 hx (y := M10) hown (mvT hZ (tw82 hw)) (mvT hZ (tw83 hw)) (mvT hZ (tw84 hw)) (mvT hZ (tw85 hw)) (by decide) (backOf (W := 1) (rmV0 l Z a0 hw [] aC kC lC i0 H8 n0 Zs8 P8_6.sH P8_6.sC P8_6.vC P8_6.t0) hZ (tw85 hw) (tw84 hw) (by decide) (by decide)) (g := (mkF m 240 #[.val (.ref a), .val (.ref ti), .val (.ref va), .val (.ref al8), .val (.int (0 : Int32)), .unset, .unset] [(.int (0 : Int32)), (.ref al8)])) rfl (by rw [hml]; rfl) (argsL := [(.int (0 : Int32))]) (rest := [(.ref al8)]) (lenOf pd__I_Ljava_lang_Integer_ rfl) rfl (own_mr rfl) (hb hby d1_240) (fun _ _ => ⟨rfl, e8, (by decide : 3 + 0 ≤ _), (by decide : 9 + 0 ≤ _)⟩)
  dsimp only [Pt.U, Pt.locs, Pt.cells, Pt.slots] at X10 l10 y10 z10 st10 hQ10
  rw [l10, y10, z10] at X10
  obtain ⟨rfl, N10q, hh10⟩ := hQ10
  have N10 := Fr.app N8 N10q
  have lt11_0 := P8_0.lt
  have lt11_1 := P8_4.lt
  have lt11_2 := P8_5.lt
  have lt11_3 := P8_7.lt
  obtain ⟨cq12, kq12, q12a, q12b, q12c⟩ := isOf hZ hh10 P8_7
  obtain ⟨_, _, ⟨T12, L12, k12, n12⟩, -, X12, ⟨Lc12, hQ12, l12, y12, z12⟩, st12⟩ := X10.interfaceBack hx (xi := M19) (y := M9) hown (mvT hZ (tw89 hw)) (mvT hZ (tw90 hw)) (mvT hZ (tw91 hw)) (mvT hZ (tw92 hw)) (mvT hZ (tw93 hw)) (mvT hZ (tw94 hw)) (mvT hZ (tw95 hw)) (mvT hZ (tw54 hw)) (by decide) (backOf (W := 0) (rmA0 l Z a0 hw [] al8 aE kE i0 H8 n0 Zs8 P8_7 P8_8 P8_9 P8_10 P8_6.sD P8_6.vE o8_0 (own_ne2 P8_6.bE (Nat.le_trans hkB o8_1)) P8_6.e0) hZ (tw96 hw) (tw25 hw) (by decide) (by decide)) q12a q12b q12c (g := (mkF m 243 #[.val (.ref a), .val (.ref ti), .val (.ref va), .val (.ref al8), .val (.int (0 : Int32)), .unset, .unset] [(.ref i0), (.ref al8)])) rfl (by rw [hml]; rfl) (Steps.refl _) (argsL := [(.ref i0)]) (rest := []) (lenOf pd__Ljava_lang_Object__Z rfl) rfl (own_mr rfl) (hb hby d1_243) (fun _ _ => ⟨rfl, hh10, (by decide : 3 + 1 ≤ _), (by decide : 9 + 10 ≤ _)⟩)
  dsimp only [Pt.U, Pt.locs, Pt.cells, Pt.slots] at X12 l12 y12 z12 st12 hQ12
  rw [l12, y12, z12] at X12
  obtain ⟨b12, b_k12, rfl, N12q, K12, gb12, sb12, Ov_b_k12, P12_0, P12_1, P12_2, P12_3⟩ := hQ12
  have N12 := Fr.app N10 N12q
  have pl27_al8 := own_plain_Exa P8_7
  replace P8_0 := P8_0.keep K12
  replace P8_1 := P8_1.keep K12 (ninS o8_2 nin0)
  replace P8_2 := P8_2.keep K12 (ninS o8_2 nin0)
  replace P8_3 := P8_3.keep K12 (ninS o8_2 nin0)
  replace P8_4 := P8_4.keep K12 (ninS o8_3 nin0)
  replace P8_5 := P8_5.keep K12 (ninS o8_4 nin0)
  replace P8_6 := P8_6.keep K12 (allS (Nat.le_trans hkB o8_1) all0) (allS pl27_al8 all0)
  replace P8_7 := P8_7.keep K12
  have Zs13 := Nat.le_trans Zs8 K12.1
  have KC13 := KC8.trans K12 (allS (Or.inr o8_1) all0)
  have ne_a_b12 := own_ne2 lt11_0 sb12
  have ne_ti_b12 := own_ne2 lt11_1 sb12
  have ne_va_b12 := own_ne2 lt11_2 sb12
  have ne_al8_b12 := own_ne2 lt11_3 sb12
  have szb12 := Nat.le_trans KC8.1 sb12
  obtain ⟨cl14, Ar14, aq14, aS14, aN14, aH14, aG14⟩ := id P8_4
  obtain ⟨cl15, Ar15, aq15, aS15, aN15, aH15, aG15⟩ := id P8_4
  have hin16 : ¬ ((1 : Int32) < 0 ∨ cl15.slots.size ≤ ((1 : Int32)).toNatClampNeg) := inb_of aS15 ⟨by decide, by decide⟩
  have hat16 : cl15.slots[((1 : Int32)).toNatClampNeg]? = some (dV tu1) := Has.at aH15 hin16 rfl
  obtain ⟨cl17, Ar17, aq17, aS17, aN17, aH17, aG17⟩ := id P8_4
  have hin18 : ¬ ((0 : Int32) < 0 ∨ cl17.slots.size ≤ ((0 : Int32)).toNatClampNeg) := inb_of aS17 ⟨by decide, by decide⟩
  have hat18 : cl17.slots[((0 : Int32)).toNatClampNeg]? = some (dV tu0) := Has.at aH17 hin18 rfl
  have hk19 : tu0 < tu1 := ps1
  obtain ⟨_, _, ⟨T20, L20, k20, n20⟩, -, X20, ⟨Lc20, hQ20, l20, y20, z20⟩, st20⟩ := Jvm.LawKit.callS X12 hx (y := M10) hown (mvT hZ (tw82 hw)) (mvT hZ (tw83 hw)) (mvT hZ (tw84 hw)) (mvT hZ (tw85 hw)) (by decide) (backOf (W := 1) (rmV1 l Z a0 hw [] aC kC lC i1 T12.heap n0 Zs13 P8_6.sH P8_6.sC P8_6.vC P8_6.t1) hZ (tw85 hw) (tw84 hw) (by decide) (by decide)) (g := (mkF m 240 #[.val (.ref a), .val (.ref ti), .val (.ref va), .val (.ref al8), .val (.int (1 : Int32)), .unset, .unset] [(.int (1 : Int32)), (.ref al8)])) rfl (by rw [hml]; rfl) (argsL := [(.int (1 : Int32))]) (rest := [(.ref al8)]) (lenOf pd__I_Ljava_lang_Integer_ rfl) rfl (own_mr rfl) (hb hby d1_240) (fun _ _ => ⟨rfl, rfl, (by decide : 4 + 0 ≤ _), (by decide : 19 + 0 ≤ _)⟩)
  dsimp only [Pt.U, Pt.locs, Pt.cells, Pt.slots] at X20 l20 y20 z20 st20 hQ20
  rw [l20, y20, z20] at X20
  obtain ⟨rfl, N20q, hh20⟩ := hQ20
  have N20 := Fr.app N12 N20q
  obtain ⟨cq22, kq22, q22a, q22b, q22c⟩ := isOf hZ hh20 P8_7
  obtain ⟨_, _, ⟨T22, L22, k22, n22⟩, -, X22, ⟨Lc22, hQ22, l22, y22, z22⟩, st22⟩ := X20.interfaceBack hx (xi := M19) (y := M9) hown (mvT hZ (tw89 hw)) (mvT hZ (tw90 hw)) (mvT hZ (tw91 hw)) (mvT hZ (tw92 hw)) (mvT hZ (tw93 hw)) (mvT hZ (tw94 hw)) (mvT hZ (tw95 hw)) (mvT hZ (tw54 hw)) (by decide) (backOf (W := 0) (rmA1 l Z a0 hw [] al8 b12 b_k12 i1 i0 T12.heap n0 Zs13 P8_7 P12_0 P12_1 P12_2 P12_3 Ov_b_k12 o8_0 gb12 (Ne.symm ne_al8_b12) P8_6.e1) hZ (tw96 hw) (tw25 hw) (by decide) (by decide)) q22a q22b q22c (g := (mkF m 243 #[.val (.ref a), .val (.ref ti), .val (.ref va), .val (.ref al8), .val (.int (1 : Int32)), .unset, .unset] [(.ref i1), (.ref al8)])) rfl (by rw [hml]; rfl) (Steps.refl _) (argsL := [(.ref i1)]) (rest := []) (lenOf pd__Ljava_lang_Object__Z rfl) rfl (own_mr rfl) (hb hby d1_243) (fun _ _ => ⟨rfl, hh20, (by decide : 4 + 0 ≤ _), (by decide : 19 + 0 ≤ _)⟩)
  dsimp only [Pt.U, Pt.locs, Pt.cells, Pt.slots] at X22 l22 y22 z22 st22 hQ22
  rw [l22, y22, z22] at X22
  obtain ⟨rfl, N22q, K22, -, P22_1, P22_2, P22_3⟩ := hQ22
  have N22 := Fr.app N20 N22q
  have pl50_al8 := own_plain_Exa P8_7
  have pl50_b12 := own_plain_Arv P12_3
  replace P8_0 := P8_0.keep K22
  replace P8_1 := P8_1.keep K22 (ninS o8_2 (ninS ne_a_b12 nin0))
  replace P8_2 := P8_2.keep K22 (ninS o8_2 (ninS ne_a_b12 nin0))
  replace P8_3 := P8_3.keep K22 (ninS o8_2 (ninS ne_a_b12 nin0))
  replace P8_4 := P8_4.keep K22 (ninS o8_3 (ninS ne_ti_b12 nin0))
  replace P8_5 := P8_5.keep K22 (ninS o8_4 (ninS ne_va_b12 nin0))
  replace P8_6 := P8_6.keep K22 (allS (Nat.le_trans hkB o8_1) (allS (Nat.le_trans hkB szb12) all0)) (allS pl50_al8 (allS pl50_b12 all0))
  replace P8_7 := P8_7.keep K22
  have Zs23 := Nat.le_trans Zs13 K22.1
  have KC23 := KC13.trans K22 (allS (Or.inr o8_1) (allS (Or.inr szb12) all0))
  have pre24 : Pr p e below I0 T22 (mkF m 248 #[.val (.ref a), .val (.ref ti), .val (.ref va), .val (.ref al8), .val (.int (1 : Int32)), .unset, .unset] [(.int (1 : Int32))]) := by
   intro tg kk
   refine pre0 tg ?_
   refine XS.aloadN X0.here hx rfl (hb hby d1_0) rfl rfl ?_
   refine st1 _ ?_
   refine XS.aloadN X1.here hx rfl (hb hby d1_4) rfl rfl ?_
   refine X1.arraylength hx (by rw [e1]; exact Ar2.1) (State.isArrayOf_alike hZ.alike Ar2.2.1) (g := (mkF m 5 #[.val (.ref a), .val (.ref ti), .val (.ref va), .unset, .unset, .unset, .unset] [(.ref ti)])) rfl rfl (hb hby d1_5) _ ?_
   rw [len_of aS2 aN2]
   refine XS.aloadN X1.here hx rfl (hb hby d1_6) rfl rfl ?_
   refine X1.arraylength hx (by rw [e1]; exact Ar3.1) (State.isArrayOf_alike hZ.alike Ar3.2.1) (g := (mkF m 7 #[.val (.ref a), .val (.ref ti), .val (.ref va), .unset, .unset, .unset, .unset] [(.ref va), (.int (3 : Int32))])) rfl rfl (hb hby d1_7) _ ?_
   rw [len_of aS3 aN3]
   refine XS.icmpYes X1.here hx rfl (pc0 := 8) (pc' := 28) rfl (hb hby d1_8) rfl (XT.ii_eq_t (by decide)) (by decide) (by decide) ?_
   refine XS.iconst X1.here hx rfl (hb hby d1_28) ?_
   refine XS.istoreN X1.here hx rfl (hb hby d1_29) rfl (l' := #[.val (.ref a), .val (.ref ti), .val (.ref va), .val (.int (0 : Int32)), .unset, .unset, .unset]) rfl ?_
   refine st4 _ ?_
   refine st5 _ ?_
   refine st6 _ ?_
   refine XS.iloadN X6.here hx rfl (hb hby d1_30) rfl ?_
   refine XS.aloadN X6.here hx rfl (hb hby d1_31) rfl rfl ?_
   refine X6.arraylength hx (by rw [e6]; exact Ar7.1) (State.isArrayOf_alike hZ.alike Ar7.2.1) (g := (mkF m 32 #[.val (.ref a), .val (.ref ti), .val (.ref va), .val (.int (3 : Int32)), .unset, .unset, .unset] [(.ref ti), (.int (3 : Int32))])) rfl rfl (hb hby d1_32) _ ?_
   rw [len_of aS7 aN7]
   refine XS.icmpYes X6.here hx rfl (pc0 := 33) (pc' := 178) rfl (hb hby d1_33) rfl (XT.ii_ge_t (by decide)) (by decide) (by decide) ?_
   refine st8 _ ?_
   refine XS.iload X8.here hx rfl (hb hby d1_211) rfl ?_
   refine XS.aloadN X8.here hx rfl (hb hby d1_213) rfl rfl ?_
   refine X8.arraylength hx (by rw [e8]; exact Ar9.1) (State.isArrayOf_alike hZ.alike Ar9.2.1) (g := (mkF m 214 #[.val (.ref a), .val (.ref ti), .val (.ref va), .val (.ref al8), .val (.int (0 : Int32)), .unset, .unset] [(.ref ti), (.int (0 : Int32))])) rfl rfl (hb hby d1_214) _ ?_
   rw [len_of aS9 aN9]
   refine XS.icmpNo X8.here hx rfl (hb hby d1_215) rfl (XT.ii_ge_f (by decide)) ?_
   refine XS.iload X8.here hx rfl (hb hby d1_218) rfl ?_
   refine XS.ifYes X8.here hx rfl (pc0 := 220) (pc' := 237) rfl (hb hby d1_220) rfl (XT.i0_eq_t (by decide)) (by decide) (by decide) ?_
   refine XS.aloadN X8.here hx rfl (hb hby d1_237) rfl rfl ?_
   refine XS.iload X8.here hx rfl (hb hby d1_238) rfl ?_
   refine st10 _ ?_
   refine st12.trans ?_
   refine XS.pop X12.here hx rfl (hb hby d1_248) rfl rfl ?_
   refine XS.iinc X12.here hx rfl (hb hby d1_249) rfl (l' := #[.val (.ref a), .val (.ref ti), .val (.ref va), .val (.ref al8), .val (.int (1 : Int32)), .unset, .unset]) rfl ?_
   refine XS.goto X12.here hx rfl (pc0 := 252) (pc' := 211) rfl (hb hby d1_252) (by decide) (by decide) ?_
   refine XS.iload X12.here hx rfl (hb hby d1_211) rfl ?_
   refine XS.aloadN X12.here hx rfl (hb hby d1_213) rfl rfl ?_
   refine X12.arraylength hx Ar14.1 (State.isArrayOf_alike hZ.alike Ar14.2.1) (g := (mkF m 214 #[.val (.ref a), .val (.ref ti), .val (.ref va), .val (.ref al8), .val (.int (1 : Int32)), .unset, .unset] [(.ref ti), (.int (1 : Int32))])) rfl rfl (hb hby d1_214) _ ?_
   rw [len_of aS14 aN14]
   refine XS.icmpNo X12.here hx rfl (hb hby d1_215) rfl (XT.ii_ge_f (by decide)) ?_
   refine XS.iload X12.here hx rfl (hb hby d1_218) rfl ?_
   refine XS.ifNo X12.here hx rfl (hb hby d1_220) rfl (XT.i0_eq_f (by decide)) ?_
   refine XS.aloadN X12.here hx rfl (hb hby d1_223) rfl rfl ?_
   refine XS.iload X12.here hx rfl (hb hby d1_224) rfl ?_
   refine X12.daload hx (j := (1 : Int32)) (v := (dV tu1)) Ar15.1 (State.isArrayOf_alike hZ.alike Ar15.2.1) Ar15.2.2 hin16 hat16 (g := (mkF m 226 #[.val (.ref a), .val (.ref ti), .val (.ref va), .val (.ref al8), .val (.int (1 : Int32)), .unset, .unset] [(.int (1 : Int32)), (.ref ti)])) rfl rfl (hb hby d1_226) _ ?_
   refine XS.aloadN X12.here hx rfl (hb hby d1_227) rfl rfl ?_
   refine XS.iload X12.here hx rfl (hb hby d1_228) rfl ?_
   refine XS.iconst X12.here hx rfl (hb hby d1_230) ?_
   refine XS.isub X12.here hx rfl (hb hby d1_231) rfl ?_
   refine X12.daload hx (j := (0 : Int32)) (v := (dV tu0)) Ar17.1 (State.isArrayOf_alike hZ.alike Ar17.2.1) Ar17.2.2 hin18 hat18 (g := (mkF m 232 #[.val (.ref a), .val (.ref ti), .val (.ref va), .val (.ref al8), .val (.int (1 : Int32)), .unset, .unset] [(.int (0 : Int32)), (.ref ti), (dV tu1)])) rfl rfl (hb hby d1_232) _ ?_
   refine XS.dcmpS X12.here hx rfl (hb hby d1_233) rfl (dcmpV_w b_tu1 b_tu0 _) ?_
   refine XS.ifNo X12.here hx rfl (hb hby d1_234) rfl (XT.ll_le_f hk19) ?_
   refine XS.aloadN X12.here hx rfl (hb hby d1_237) rfl rfl ?_
   refine XS.iload X12.here hx rfl (hb hby d1_238) rfl ?_
   refine st20 _ ?_
   refine st22.trans ?_
   exact kk
  exact ⟨T22, _, T22.heap, al8, b12, b_k12, X22, N22, rfl, Zs23, KC23, P8_0, P8_1, P8_2, P8_3, P8_4, P8_5, P8_6, P8_7, P22_1, P22_2, P22_3, Ov_b_k12, o8_0, gb12, o8_1, szb12, o8_2, o8_3, o8_4, ne_a_b12, ne_ti_b12, ne_va_b12, ne_al8_b12, pre24⟩
 clear pre0 X0 N0 e0 KC0 Z0 E_a F_times F_values F_instants F_lefts F_rights V_ti E_ti V_va E_va EN
 obtain ⟨cl26, Ar26, aq26, aS26, aN26, aH26, aG26⟩ := id P8_4_c25
 obtain ⟨cl27, Ar27, aq27, aS27, aN27, aH27, aG27⟩ := id P8_4_c25
 have hin28 : ¬ ((2 : Int32) < 0 ∨ cl27.slots.size ≤ ((2 : Int32)).toNatClampNeg) := inb_of aS27 ⟨by decide, by decide⟩
 have hat28 : cl27.slots[((2 : Int32)).toNatClampNeg]? = some (dV tu2) := Has.at aH27 hin28 rfl
 obtain ⟨cl29, Ar29, aq29, aS29, aN29, aH29, aG29⟩ := id P8_4_c25
 have hin30 : ¬ ((1 : Int32) < 0 ∨ cl29.slots.size ≤ ((1 : Int32)).toNatClampNeg) := inb_of aS29 ⟨by decide, by decide⟩
 have hat30 : cl29.slots[((1 : Int32)).toNatClampNeg]? = some (dV tu1) := Has.at aH29 hin30 rfl
 have hk31 : ¬ (tu1 < tu2) := ps2
 obtain ⟨cl32, Ar32, aq32, aS32, aN32, aH32, aG32⟩ := id P8_4_c25
 obtain ⟨T33, lo33, H33, di33, di_k33, dl33, dl_k33, dr33, dr_k33, X33, N33, e33, Zs33, KC33, P33_0, P33_1, P33_2, P33_3, P33_4, P33_5, P33_6, o33_0, o33_1, o33_2, o33_3, o33_4, o33_5, st33⟩ := sC2 hw hx hby hml hZ hown hnm a ti ti_k va va_k ((3 : Int32)) ([(dV tu0), (dV tu1), (dV tu2)]) ([(dV vu0), (dV vu1), (dV vu2)]) ((3 : Int32)) al8 b12 b_k12 i0 i1 ((0 : Int32)) ((1 : Int32)) tu0 tu1 vu1 vu0 vu2 X25 N25 e25 Zs25 KC25 P8_0_c25 P8_1_c25 P8_2_c25 P8_3_c25 P8_4_c25 P8_5_c25 P8_7_c25 P22_1_c25 P22_2_c25 P22_3_c25 P8_6_c25.e0 P8_6_c25.e1 P8_6_c25.f0 P8_6_c25.f1 g_a ne_ti_a ne_va_a (Ne.symm nesc25_2) (Ne.symm nesc25_5) (own_ne2 P8_6_c25.b0 k_a) (own_ne2 P8_6_c25.b1 k_a) (by decide) rfl (by decide) rfl (by decide) rfl (by decide) rfl rfl
 obtain ⟨fs, hr, hrun, hended, hW, hsame⟩ := X33.leave (v := none) (fun _ => rfl)
 refine ⟨_, _, pre25 _ ?_, hrun, hended, _, _, rfl, ?_, ⟨_, rfl⟩, hW, hsame.mono (by decide) (by decide)⟩
 ·skip
  refine XS.pop X25.here hx rfl (hb hby d1_248) rfl rfl ?_
  refine XS.iinc X25.here hx rfl (hb hby d1_249) rfl (l' := #[.val (.ref a), .val (.ref ti), .val (.ref va), .val (.ref al8), .val (.int (2 : Int32)), .unset, .unset]) rfl ?_
  refine XS.goto X25.here hx rfl (pc0 := 252) (pc' := 211) rfl (hb hby d1_252) (by decide) (by decide) ?_
  refine XS.iload X25.here hx rfl (hb hby d1_211) rfl ?_
  refine XS.aloadN X25.here hx rfl (hb hby d1_213) rfl rfl ?_
  refine X25.arraylength hx (by rw [e25]; exact Ar26.1) (State.isArrayOf_alike hZ.alike Ar26.2.1) (g := (mkF m 214 #[.val (.ref a), .val (.ref ti), .val (.ref va), .val (.ref al8), .val (.int (2 : Int32)), .unset, .unset] [(.ref ti), (.int (2 : Int32))])) rfl rfl (hb hby d1_214) _ ?_
  rw [len_of aS26 aN26]
  refine XS.icmpNo X25.here hx rfl (hb hby d1_215) rfl (XT.ii_ge_f (by decide)) ?_
  refine XS.iload X25.here hx rfl (hb hby d1_218) rfl ?_
  refine XS.ifNo X25.here hx rfl (hb hby d1_220) rfl (XT.i0_eq_f (by decide)) ?_
  refine XS.aloadN X25.here hx rfl (hb hby d1_223) rfl rfl ?_
  refine XS.iload X25.here hx rfl (hb hby d1_224) rfl ?_
  refine X25.daload hx (j := (2 : Int32)) (v := (dV tu2)) (by rw [e25]; exact Ar27.1) (State.isArrayOf_alike hZ.alike Ar27.2.1) Ar27.2.2 hin28 hat28 (g := (mkF m 226 #[.val (.ref a), .val (.ref ti), .val (.ref va), .val (.ref al8), .val (.int (2 : Int32)), .unset, .unset] [(.int (2 : Int32)), (.ref ti)])) rfl rfl (hb hby d1_226) _ ?_
  refine XS.aloadN X25.here hx rfl (hb hby d1_227) rfl rfl ?_
  refine XS.iload X25.here hx rfl (hb hby d1_228) rfl ?_
  refine XS.iconst X25.here hx rfl (hb hby d1_230) ?_
  refine XS.isub X25.here hx rfl (hb hby d1_231) rfl ?_
  refine X25.daload hx (j := (1 : Int32)) (v := (dV tu1)) (by rw [e25]; exact Ar29.1) (State.isArrayOf_alike hZ.alike Ar29.2.1) Ar29.2.2 hin30 hat30 (g := (mkF m 232 #[.val (.ref a), .val (.ref ti), .val (.ref va), .val (.ref al8), .val (.int (2 : Int32)), .unset, .unset] [(.int (1 : Int32)), (.ref ti), (dV tu2)])) rfl rfl (hb hby d1_232) _ ?_
  refine XS.dcmpS X25.here hx rfl (hb hby d1_233) rfl (dcmpV_w b_tu2 b_tu1 _) ?_
  refine XS.ifYes X25.here hx rfl (pc0 := 234) (pc' := 249) rfl (hb hby d1_234) rfl (XT.ll_le_t hk31) (by decide) (by decide) ?_
  refine XS.iinc X25.here hx rfl (hb hby d1_249) rfl (l' := #[.val (.ref a), .val (.ref ti), .val (.ref va), .val (.ref al8), .val (.int (3 : Int32)), .unset, .unset]) rfl ?_
  refine XS.goto X25.here hx rfl (pc0 := 252) (pc' := 211) rfl (hb hby d1_252) (by decide) (by decide) ?_
  refine XS.iload X25.here hx rfl (hb hby d1_211) rfl ?_
  refine XS.aloadN X25.here hx rfl (hb hby d1_213) rfl rfl ?_
  refine X25.arraylength hx (by rw [e25]; exact Ar32.1) (State.isArrayOf_alike hZ.alike Ar32.2.1) (g := (mkF m 214 #[.val (.ref a), .val (.ref ti), .val (.ref va), .val (.ref al8), .val (.int (3 : Int32)), .unset, .unset] [(.ref ti), (.int (3 : Int32))])) rfl rfl (hb hby d1_214) _ ?_
  rw [len_of aS32 aN32]
  refine XS.icmpYes X25.here hx rfl (pc0 := 215) (pc' := 255) rfl (hb hby d1_215) rfl (XT.ii_ge_t (by decide)) (by decide) (by decide) ?_
  refine st33 _ ?_
  exact X33.returnOut hx Bd.returns (hb hby d1_409) hr
 ·show QC3tf Z a ti ti_k va va_k kB aE kE aC kC lC i0 i1 i2 tu0 tu1 tu2 vu0 vu1 vu2 h0 n0 _ T33.heap _
  rw [e33]
  exact ⟨di33, di_k33, dl33, dl_k33, dr33, dr_k33, rfl, N33, KC33, o33_0, o33_1, o33_2, o33_3, o33_4, o33_5, P33_0, P33_1, P33_2, P33_3, P33_4, P33_5, P33_6⟩
def QC3ft (Z : State) (a : Addr) (ti : Addr) (ti_k : ClassId) (va : Addr) (va_k : ClassId) (kB : Nat) (aE : Addr) (kE : ClassId) (aC : Addr) (kC : ClassId) (lC : List Value) (i0 : Addr) (i1 : Addr) (i2 : Addr) (tu0 : Int64) (tu1 : Int64) (tu2 : Int64) (vu0 : Int64) (vu1 : Int64) (vu2 : Int64) (h0 : Heap) (n0 : Nat) (v : Option Value) (h : Heap) (L : List Loc) : Prop := ∃ (di : Addr) (di_k : ClassId) (dl : Addr) (dl_k : ClassId) (dr : Addr) (dr_k : ClassId), v = none ∧ Fr n0 L ∧ Keep h0 h [a] ∧ n0 ≤ di ∧ h0.size ≤ di ∧ n0 ≤ dl ∧ h0.size ≤ dl ∧ n0 ≤ dr ∧ h0.size ≤ dr ∧ Exa Z h a cF ∧ Fld Z h a cF "instants" "[D" (.ref di) ∧ Fld Z h a cF "lefts" "[D" (.ref dl) ∧ Fld Z h a cF "rights" "[D" (.ref dr) ∧ Arv Z h di di_k .double (2 : Int32) [(dV tu0), (dV tu2)] dZ ∧ Arv Z h dl dl_k .double (2 : Int32) [dZ, (dV vu2)] dZ ∧ Arv Z h dr dr_k .double (2 : Int32) [(dV vu1), (dV vu2)] dZ
set_option maxRecDepth 65536 in
set_option maxHeartbeats 40000000 in
theorem rmC3ft (l : Launch) (Z : State) (a0 : Array Value) (hw : HW a0 Z) (ws : List Jvm.Cond) (a : Addr) (ti : Addr) (ti_k : ClassId) (va : Addr) (va_k : ClassId) (kB : Nat) (aE : Addr) (kE : ClassId) (aC : Addr) (kC : ClassId) (lC : List Value) (i0 : Addr) (i1 : Addr) (i2 : Addr) (tu0 : Int64) (tu1 : Int64) (tu2 : Int64) (vu0 : Int64) (vu1 : Int64) (vu2 : Int64) (h0 : Heap) (n0 : Nat) (Z0 : n0 ≤ h0.size) (E_a : Exa Z h0 a cF) (F_times : Fld Z h0 a cF "times" "[D" .null) (F_values : Fld Z h0 a cF "values" "[D" .null) (F_instants : Fld Z h0 a cF "instants" "[D" .null) (F_lefts : Fld Z h0 a cF "lefts" "[D" .null) (F_rights : Fld Z h0 a cF "rights" "[D" .null) (V_ti : Arv Z h0 ti ti_k .double (3 : Int32) [(dV tu0), (dV tu1), (dV tu2)] dZ) (E_ti : Exa Z h0 ti "[D") (V_va : Arv Z h0 va va_k .double (3 : Int32) [(dV vu0), (dV vu1), (dV vu2)] dZ) (E_va : Exa Z h0 va "[D") (EN : EnvJ Z kB h0 aE kE aC kC lC i0 i1 i2) (hkB : kB ≤ h0.size) (k_a : kB ≤ a) (g_a : n0 ≤ a) (ne_ti_a : ti ≠ a) (ne_va_a : va ≠ a) (b_tu0 : B53 tu0) (b_tu1 : B53 tu1) (b_tu2 : B53 tu2) (b_vu0 : B53 vu0) (b_vu1 : B53 vu1) (b_vu2 : B53 vu2) (ov0 : ¬ vu0 < (0 : Int64)) (ot1 : ¬ tu1 < tu0) (ov1 : ¬ vu1 < vu0) (ps1 : ¬ tu0 < tu1) (ot2 : ¬ tu2 < tu1) (ov2 : ¬ vu2 < vu1) (ps2 : tu1 < tu2) :
    MetFree l M18 (head1 (Jvm.Cond.code M18 prog_37_method_1_code 7 none :: ws) R5_7_28_108) (fun ar UU => ar = #[(.ref a), (.ref ti), (.ref va)] ∧ Z.Warmed39 UU.vm ∧ UU.heap = h0) (fun _ _ _ _ _ => True) (fun _ UU oo UU' => ∃ vv LL, oo = .returned vv ∧ QC3ft Z a ti ti_k va va_k kB aE kE aC kC lC i0 i1 i2 tu0 tu1 tu2 vu0 vu1 vu2 h0 n0 vv UU'.heap LL ∧ FrameEnd UU oo UU' LL R5_7_28_108.cells R5_7_28_108.slots) := by
 refine MetFree.of_bodySF (plainFor_of_name pn_1) hisR ?_
 intro p e s m args below meth c s₁ Bd hml0 hP hK
 obtain ⟨rfl, hZ, hh⟩ := hP
 have hx := Bd.exec
 have hby := Bd.bytes
 have hml : c.maxLocals = 7 := hml0
 have hown : s.vm.findClass "com/example/narrow_bound/narrowbound/witness/CumulativeFunction" = some m.cls := findClass_of_methodNamed Bd.named
 have hnm := (name_of_methodNamed Bd.named Bd.method).1
 have X0 : Stand p l e R5_7_28_108 s m #[(.ref a), (.ref ti), (.ref va)] below meth c s₁ [] 0 0 := Stand.of_body Bd
 have e0 : s₁.heap = h0 := by rw [← hh, Bd.state]; rfl
 have N0 := Fr.nil n0
 have KC0 : Keep h0 h0 [a] := Keep.refl h0 [a]
 have pre0 : ∀ tgt, Steps p.tables e below (s₁.setTop (mkF m 0 #[.val (.ref a), .val (.ref ti), .val (.ref va), .unset, .unset, .unset, .unset] [])) tgt → Steps p.tables e below (s₁.setTop (entryFrame m #[(.ref a), (.ref ti), (.ref va)] 7)) tgt := fun tgt kk => castTop (ef1_RRR m (a) (ti) (va)) kk
 generalize hI : s₁.setTop (entryFrame m #[(.ref a), (.ref ti), (.ref va)] 7) = I0 at pre0 ⊢
 obtain ⟨T31, lo31, Hc31, al8, b12, b_k12, X31, N31, e31, Zs31, KC31, P8_0_c31, P8_1_c31, P8_2_c31, P8_3_c31, P8_4_c31, P8_5_c31, P8_6_c31, P8_7_c31, P28_1_c31, P28_2_c31, P28_3_c31, Ovc31_b_k12, gnc31_1, gnc31_2, szc31_0, szc31_1, nesc31_2, nesc31_3, nesc31_4, nesc31_5, nesc31_6, nesc31_7, nesc31_8, pre31⟩ : ∃ (T31 : State) (lo31 : List Loc) (Hc31 : Heap) (al8 : Addr) (b12 : Addr) (b_k12 : ClassId), Stand p l e R5_7_28_108 s m #[(.ref a), (.ref ti), (.ref va)] below meth c T31 lo31 4 19 ∧ Fr n0 lo31 ∧ T31.heap = Hc31 ∧ n0 ≤ Hc31.size ∧ Keep h0 Hc31 [a] ∧ Exa Z Hc31 a cF ∧ Fld Z Hc31 a cF "instants" "[D" .null ∧ Fld Z Hc31 a cF "lefts" "[D" .null ∧ Fld Z Hc31 a cF "rights" "[D" .null ∧ Arv Z Hc31 ti ti_k .double (3 : Int32) [(dV tu0), (dV tu1), (dV tu2)] dZ ∧ Arv Z Hc31 va va_k .double (3 : Int32) [(dV vu0), (dV vu1), (dV vu2)] dZ ∧ EnvJ Z kB Hc31 aE kE aC kC lC i0 i1 i2 ∧ Exa Z Hc31 al8 aL ∧ Fld Z Hc31 al8 aL "size" "I" (.int (2 : Int32)) ∧ Fld Z Hc31 al8 aL "elementData" lO (.ref b12) ∧ Arv Z Hc31 b12 b_k12 (.object "java/lang/Object") (10 : Int32) [(.ref i0), (.ref i2), .null, .null, .null, .null, .null, .null, .null, .null] .null ∧ Ovr Z b_k12 "java/lang/Object" ∧ n0 ≤ al8 ∧ n0 ≤ b12 ∧ h0.size ≤ al8 ∧ h0.size ≤ b12 ∧ a ≠ al8 ∧ ti ≠ al8 ∧ va ≠ al8 ∧ a ≠ b12 ∧ ti ≠ b12 ∧ va ≠ b12 ∧ al8 ≠ b12 ∧ Pr p e below I0 T31 (mkF m 248 #[.val (.ref a), .val (.ref ti), .val (.ref va), .val (.ref al8), .val (.int (2 : Int32)), .unset, .unset] [(.int (1 : Int32))]) := by
  obtain ⟨T1, X1, e1, st1⟩ := initO X0 hx hZ hown (tw7 hw) (tw8 hw) (tw9 hw) e0 (g := (mkF m 1 #[.val (.ref a), .val (.ref ti), .val (.ref va), .unset, .unset, .unset, .unset] [(.ref a)])) rfl (by rw [hml]; rfl) rfl (hb hby d1_1) (by decide) (W := 0) (own_mr rfl) (by decide)
  obtain ⟨cl2, Ar2, aq2, aS2, aN2, aH2, aG2⟩ := id V_ti
  obtain ⟨cl3, Ar3, aq3, aS3, aN3, aH3, aG3⟩ := id V_va
  obtain ⟨T4, lo4, X4, N4, e4, st4⟩ := sV0 hw hx hby hml hZ hown hnm a ti ti_k va va_k ((3 : Int32)) ([(dV tu0), (dV tu1), (dV tu2)]) ([(dV vu0), (dV vu1), (dV vu2)]) tu0 vu0 X1 N0 e1 Z0 KC0 V_ti V_va (by decide) rfl rfl b_tu0 b_vu0 ov0
  obtain ⟨T5, lo5, X5, N5, e5, st5⟩ := sV1 hw hx hby hml hZ hown hnm a ti ti_k va va_k ((3 : Int32)) ([(dV tu0), (dV tu1), (dV tu2)]) ([(dV vu0), (dV vu1), (dV vu2)]) ((1 : Int32)) ((2 : Int32)) tu0 tu1 vu0 vu1 X4 N4 e4 Z0 KC0 V_ti V_va (by decide) (by decide) (by decide) (by decide) (by decide) rfl rfl rfl rfl b_tu0 b_tu1 b_vu0 b_vu1 ot1 ov1
  obtain ⟨T6, lo6, X6, N6, e6, st6⟩ := sV1 hw hx hby hml hZ hown hnm a ti ti_k va va_k ((3 : Int32)) ([(dV tu0), (dV tu1), (dV tu2)]) ([(dV vu0), (dV vu1), (dV vu2)]) ((2 : Int32)) ((3 : Int32)) tu1 tu2 vu1 vu2 X5 N5 e5 Z0 KC0 V_ti V_va (by decide) (by decide) (by decide) (by decide) (by decide) rfl rfl rfl rfl b_tu1 b_tu2 b_vu1 b_vu2 ot2 ov2
  obtain ⟨cl7, Ar7, aq7, aS7, aN7, aH7, aG7⟩ := id V_ti
  obtain ⟨T8, lo8, H8, al8, X8, N8, e8, Zs8, KC8, P8_0, P8_1, P8_2, P8_3, P8_4, P8_5, P8_6, P8_7, P8_8, P8_9, P8_10, o8_0, o8_1, o8_2, o8_3, o8_4, st8⟩ := sA hw hx hby hml hZ hown hnm a ti ti_k va va_k ((3 : Int32)) ([(dV tu0), (dV tu1), (dV tu2)]) ([(dV vu0), (dV vu1), (dV vu2)]) ((3 : Int32)) kB aE kE aC kC lC i0 i1 i2 X6 N6 e6 Z0 KC0 E_a F_times F_values F_instants F_lefts F_rights V_ti E_ti V_va E_va EN hkB k_a g_a ne_ti_a ne_va_a (by decide)
  obtain ⟨cl9, Ar9, aq9, aS9, aN9, aH9, aG9⟩ := id P8_4
  obtain ⟨_, _, ⟨T10, L10, k10, n10⟩, -, X10, ⟨Lc10, hQ10, l10, y10, z10⟩, st10⟩ := Jvm.LawKit.callS X8 hx (y := M10) hown (mvT hZ (tw82 hw)) (mvT hZ (tw83 hw)) (mvT hZ (tw84 hw)) (mvT hZ (tw85 hw)) (by decide) (backOf (W := 1) (rmV0 l Z a0 hw [] aC kC lC i0 H8 n0 Zs8 P8_6.sH P8_6.sC P8_6.vC P8_6.t0) hZ (tw85 hw) (tw84 hw) (by decide) (by decide)) (g := (mkF m 240 #[.val (.ref a), .val (.ref ti), .val (.ref va), .val (.ref al8), .val (.int (0 : Int32)), .unset, .unset] [(.int (0 : Int32)), (.ref al8)])) rfl (by rw [hml]; rfl) (argsL := [(.int (0 : Int32))]) (rest := [(.ref al8)]) (lenOf pd__I_Ljava_lang_Integer_ rfl) rfl (own_mr rfl) (hb hby d1_240) (fun _ _ => ⟨rfl, e8, (by decide : 3 + 0 ≤ _), (by decide : 9 + 0 ≤ _)⟩)
  dsimp only [Pt.U, Pt.locs, Pt.cells, Pt.slots] at X10 l10 y10 z10 st10 hQ10
  rw [l10, y10, z10] at X10
  obtain ⟨rfl, N10q, hh10⟩ := hQ10
  have N10 := Fr.app N8 N10q
  have lt11_0 := P8_0.lt
  have lt11_1 := P8_4.lt
  have lt11_2 := P8_5.lt
  have lt11_3 := P8_7.lt
  obtain ⟨cq12, kq12, q12a, q12b, q12c⟩ := isOf hZ hh10 P8_7
  obtain ⟨_, _, ⟨T12, L12, k12, n12⟩, -, X12, ⟨Lc12, hQ12, l12, y12, z12⟩, st12⟩ := X10.interfaceBack hx (xi := M19) (y := M9) hown (mvT hZ (tw89 hw)) (mvT hZ (tw90 hw)) (mvT hZ (tw91 hw)) (mvT hZ (tw92 hw)) (mvT hZ (tw93 hw)) (mvT hZ (tw94 hw)) (mvT hZ (tw95 hw)) (mvT hZ (tw54 hw)) (by decide) (backOf (W := 0) (rmA0 l Z a0 hw [] al8 aE kE i0 H8 n0 Zs8 P8_7 P8_8 P8_9 P8_10 P8_6.sD P8_6.vE o8_0 (own_ne2 P8_6.bE (Nat.le_trans hkB o8_1)) P8_6.e0) hZ (tw96 hw) (tw25 hw) (by decide) (by decide)) q12a q12b q12c (g := (mkF m 243 #[.val (.ref a), .val (.ref ti), .val (.ref va), .val (.ref al8), .val (.int (0 : Int32)), .unset, .unset] [(.ref i0), (.ref al8)])) rfl (by rw [hml]; rfl) (Steps.refl _) (argsL := [(.ref i0)]) (rest := []) (lenOf pd__Ljava_lang_Object__Z rfl) rfl (own_mr rfl) (hb hby d1_243) (fun _ _ => ⟨rfl, hh10, (by decide : 3 + 1 ≤ _), (by decide : 9 + 10 ≤ _)⟩)
  dsimp only [Pt.U, Pt.locs, Pt.cells, Pt.slots] at X12 l12 y12 z12 st12 hQ12
  rw [l12, y12, z12] at X12
  obtain ⟨b12, b_k12, rfl, N12q, K12, gb12, sb12, Ov_b_k12, P12_0, P12_1, P12_2, P12_3⟩ := hQ12
  have N12 := Fr.app N10 N12q
  have pl27_al8 := own_plain_Exa P8_7
  replace P8_0 := P8_0.keep K12
  replace P8_1 := P8_1.keep K12 (ninS o8_2 nin0)
  replace P8_2 := P8_2.keep K12 (ninS o8_2 nin0)
  replace P8_3 := P8_3.keep K12 (ninS o8_2 nin0)
  replace P8_4 := P8_4.keep K12 (ninS o8_3 nin0)
  replace P8_5 := P8_5.keep K12 (ninS o8_4 nin0)
  replace P8_6 := P8_6.keep K12 (allS (Nat.le_trans hkB o8_1) all0) (allS pl27_al8 all0)
  replace P8_7 := P8_7.keep K12
  have Zs13 := Nat.le_trans Zs8 K12.1
  have KC13 := KC8.trans K12 (allS (Or.inr o8_1) all0)
  have ne_a_b12 := own_ne2 lt11_0 sb12
  have ne_ti_b12 := own_ne2 lt11_1 sb12
  have ne_va_b12 := own_ne2 lt11_2 sb12
  have ne_al8_b12 := own_ne2 lt11_3 sb12
  have szb12 := Nat.le_trans KC8.1 sb12
  obtain ⟨cl14, Ar14, aq14, aS14, aN14, aH14, aG14⟩ := id P8_4
  obtain ⟨cl15, Ar15, aq15, aS15, aN15, aH15, aG15⟩ := id P8_4
  have hin16 : ¬ ((1 : Int32) < 0 ∨ cl15.slots.size ≤ ((1 : Int32)).toNatClampNeg) := inb_of aS15 ⟨by decide, by decide⟩
  have hat16 : cl15.slots[((1 : Int32)).toNatClampNeg]? = some (dV tu1) := Has.at aH15 hin16 rfl
  obtain ⟨cl17, Ar17, aq17, aS17, aN17, aH17, aG17⟩ := id P8_4
  have hin18 : ¬ ((0 : Int32) < 0 ∨ cl17.slots.size ≤ ((0 : Int32)).toNatClampNeg) := inb_of aS17 ⟨by decide, by decide⟩
  have hat18 : cl17.slots[((0 : Int32)).toNatClampNeg]? = some (dV tu0) := Has.at aH17 hin18 rfl
  have hk19 : ¬ (tu0 < tu1) := ps1
  obtain ⟨cl20, Ar20, aq20, aS20, aN20, aH20, aG20⟩ := id P8_4
  obtain ⟨cl21, Ar21, aq21, aS21, aN21, aH21, aG21⟩ := id P8_4
  have hin22 : ¬ ((2 : Int32) < 0 ∨ cl21.slots.size ≤ ((2 : Int32)).toNatClampNeg) := inb_of aS21 ⟨by decide, by decide⟩
  have hat22 : cl21.slots[((2 : Int32)).toNatClampNeg]? = some (dV tu2) := Has.at aH21 hin22 rfl
  obtain ⟨cl23, Ar23, aq23, aS23, aN23, aH23, aG23⟩ := id P8_4
  have hin24 : ¬ ((1 : Int32) < 0 ∨ cl23.slots.size ≤ ((1 : Int32)).toNatClampNeg) := inb_of aS23 ⟨by decide, by decide⟩
  have hat24 : cl23.slots[((1 : Int32)).toNatClampNeg]? = some (dV tu1) := Has.at aH23 hin24 rfl
  have hk25 : tu1 < tu2 := ps2
  obtain ⟨_, _, ⟨T26, L26, k26, n26⟩, -, X26, ⟨Lc26, hQ26, l26, y26, z26⟩, st26⟩ := Jvm.LawKit.callS X12 hx (y := M10) hown (mvT hZ (tw82 hw)) (mvT hZ (tw83 hw)) (mvT hZ (tw84 hw)) (mvT hZ (tw85 hw)) (by decide) (backOf (W := 1) (rmV2 l Z a0 hw [] aC kC lC i2 T12.heap n0 Zs13 P8_6.sH P8_6.sC P8_6.vC P8_6.t2) hZ (tw85 hw) (tw84 hw) (by decide) (by decide)) (g := (mkF m 240 #[.val (.ref a), .val (.ref ti), .val (.ref va), .val (.ref al8), .val (.int (2 : Int32)), .unset, .unset] [(.int (2 : Int32)), (.ref al8)])) rfl (by rw [hml]; rfl) (argsL := [(.int (2 : Int32))]) (rest := [(.ref al8)]) (lenOf pd__I_Ljava_lang_Integer_ rfl) rfl (own_mr rfl) (hb hby d1_240) (fun _ _ => ⟨rfl, rfl, (by decide : 4 + 0 ≤ _), (by decide : 19 + 0 ≤ _)⟩)
  dsimp only [Pt.U, Pt.locs, Pt.cells, Pt.slots] at X26 l26 y26 z26 st26 hQ26
  rw [l26, y26, z26] at X26
  obtain ⟨rfl, N26q, hh26⟩ := hQ26
  have N26 := Fr.app N12 N26q
  obtain ⟨cq28, kq28, q28a, q28b, q28c⟩ := isOf hZ hh26 P8_7
  obtain ⟨_, _, ⟨T28, L28, k28, n28⟩, -, X28, ⟨Lc28, hQ28, l28, y28, z28⟩, st28⟩ := X26.interfaceBack hx (xi := M19) (y := M9) hown (mvT hZ (tw89 hw)) (mvT hZ (tw90 hw)) (mvT hZ (tw91 hw)) (mvT hZ (tw92 hw)) (mvT hZ (tw93 hw)) (mvT hZ (tw94 hw)) (mvT hZ (tw95 hw)) (mvT hZ (tw54 hw)) (by decide) (backOf (W := 0) (rmA1 l Z a0 hw [] al8 b12 b_k12 i2 i0 T12.heap n0 Zs13 P8_7 P12_0 P12_1 P12_2 P12_3 Ov_b_k12 o8_0 gb12 (Ne.symm ne_al8_b12) P8_6.e2) hZ (tw96 hw) (tw25 hw) (by decide) (by decide)) q28a q28b q28c (g := (mkF m 243 #[.val (.ref a), .val (.ref ti), .val (.ref va), .val (.ref al8), .val (.int (2 : Int32)), .unset, .unset] [(.ref i2), (.ref al8)])) rfl (by rw [hml]; rfl) (Steps.refl _) (argsL := [(.ref i2)]) (rest := []) (lenOf pd__Ljava_lang_Object__Z rfl) rfl (own_mr rfl) (hb hby d1_243) (fun _ _ => ⟨rfl, hh26, (by decide : 4 + 0 ≤ _), (by decide : 19 + 0 ≤ _)⟩)
  dsimp only [Pt.U, Pt.locs, Pt.cells, Pt.slots] at X28 l28 y28 z28 st28 hQ28
  rw [l28, y28, z28] at X28
  obtain ⟨rfl, N28q, K28, -, P28_1, P28_2, P28_3⟩ := hQ28
  have N28 := Fr.app N26 N28q
  have pl68_al8 := own_plain_Exa P8_7
  have pl68_b12 := own_plain_Arv P12_3
  replace P8_0 := P8_0.keep K28
  replace P8_1 := P8_1.keep K28 (ninS o8_2 (ninS ne_a_b12 nin0))
  replace P8_2 := P8_2.keep K28 (ninS o8_2 (ninS ne_a_b12 nin0))
  replace P8_3 := P8_3.keep K28 (ninS o8_2 (ninS ne_a_b12 nin0))
  replace P8_4 := P8_4.keep K28 (ninS o8_3 (ninS ne_ti_b12 nin0))
  replace P8_5 := P8_5.keep K28 (ninS o8_4 (ninS ne_va_b12 nin0))
  replace P8_6 := P8_6.keep K28 (allS (Nat.le_trans hkB o8_1) (allS (Nat.le_trans hkB szb12) all0)) (allS pl68_al8 (allS pl68_b12 all0))
  replace P8_7 := P8_7.keep K28
  have Zs29 := Nat.le_trans Zs13 K28.1
  have KC29 := KC13.trans K28 (allS (Or.inr o8_1) (allS (Or.inr szb12) all0))
  have pre30 : Pr p e below I0 T28 (mkF m 248 #[.val (.ref a), .val (.ref ti), .val (.ref va), .val (.ref al8), .val (.int (2 : Int32)), .unset, .unset] [(.int (1 : Int32))]) := by
   intro tg kk
   refine pre0 tg ?_
   refine XS.aloadN X0.here hx rfl (hb hby d1_0) rfl rfl ?_
   refine st1 _ ?_
   refine XS.aloadN X1.here hx rfl (hb hby d1_4) rfl rfl ?_
   refine X1.arraylength hx (by rw [e1]; exact Ar2.1) (State.isArrayOf_alike hZ.alike Ar2.2.1) (g := (mkF m 5 #[.val (.ref a), .val (.ref ti), .val (.ref va), .unset, .unset, .unset, .unset] [(.ref ti)])) rfl rfl (hb hby d1_5) _ ?_
   rw [len_of aS2 aN2]
   refine XS.aloadN X1.here hx rfl (hb hby d1_6) rfl rfl ?_
   refine X1.arraylength hx (by rw [e1]; exact Ar3.1) (State.isArrayOf_alike hZ.alike Ar3.2.1) (g := (mkF m 7 #[.val (.ref a), .val (.ref ti), .val (.ref va), .unset, .unset, .unset, .unset] [(.ref va), (.int (3 : Int32))])) rfl rfl (hb hby d1_7) _ ?_
   rw [len_of aS3 aN3]
   refine XS.icmpYes X1.here hx rfl (pc0 := 8) (pc' := 28) rfl (hb hby d1_8) rfl (XT.ii_eq_t (by decide)) (by decide) (by decide) ?_
   refine XS.iconst X1.here hx rfl (hb hby d1_28) ?_
   refine XS.istoreN X1.here hx rfl (hb hby d1_29) rfl (l' := #[.val (.ref a), .val (.ref ti), .val (.ref va), .val (.int (0 : Int32)), .unset, .unset, .unset]) rfl ?_
   refine st4 _ ?_
   refine st5 _ ?_
   refine st6 _ ?_
   refine XS.iloadN X6.here hx rfl (hb hby d1_30) rfl ?_
   refine XS.aloadN X6.here hx rfl (hb hby d1_31) rfl rfl ?_
   refine X6.arraylength hx (by rw [e6]; exact Ar7.1) (State.isArrayOf_alike hZ.alike Ar7.2.1) (g := (mkF m 32 #[.val (.ref a), .val (.ref ti), .val (.ref va), .val (.int (3 : Int32)), .unset, .unset, .unset] [(.ref ti), (.int (3 : Int32))])) rfl rfl (hb hby d1_32) _ ?_
   rw [len_of aS7 aN7]
   refine XS.icmpYes X6.here hx rfl (pc0 := 33) (pc' := 178) rfl (hb hby d1_33) rfl (XT.ii_ge_t (by decide)) (by decide) (by decide) ?_
   refine st8 _ ?_
   refine XS.iload X8.here hx rfl (hb hby d1_211) rfl ?_
   refine XS.aloadN X8.here hx rfl (hb hby d1_213) rfl rfl ?_
   refine X8.arraylength hx (by rw [e8]; exact Ar9.1) (State.isArrayOf_alike hZ.alike Ar9.2.1) (g := (mkF m 214 #[.val (.ref a), .val (.ref ti), .val (.ref va), .val (.ref al8), .val (.int (0 : Int32)), .unset, .unset] [(.ref ti), (.int (0 : Int32))])) rfl rfl (hb hby d1_214) _ ?_
   rw [len_of aS9 aN9]
   refine XS.icmpNo X8.here hx rfl (hb hby d1_215) rfl (XT.ii_ge_f (by decide)) ?_
   refine XS.iload X8.here hx rfl (hb hby d1_218) rfl ?_
   refine XS.ifYes X8.here hx rfl (pc0 := 220) (pc' := 237) rfl (hb hby d1_220) rfl (XT.i0_eq_t (by decide)) (by decide) (by decide) ?_
   refine XS.aloadN X8.here hx rfl (hb hby d1_237) rfl rfl ?_
   refine XS.iload X8.here hx rfl (hb hby d1_238) rfl ?_
   refine st10 _ ?_
   refine st12.trans ?_
   refine XS.pop X12.here hx rfl (hb hby d1_248) rfl rfl ?_
   refine XS.iinc X12.here hx rfl (hb hby d1_249) rfl (l' := #[.val (.ref a), .val (.ref ti), .val (.ref va), .val (.ref al8), .val (.int (1 : Int32)), .unset, .unset]) rfl ?_
   refine XS.goto X12.here hx rfl (pc0 := 252) (pc' := 211) rfl (hb hby d1_252) (by decide) (by decide) ?_
   refine XS.iload X12.here hx rfl (hb hby d1_211) rfl ?_
   refine XS.aloadN X12.here hx rfl (hb hby d1_213) rfl rfl ?_
   refine X12.arraylength hx Ar14.1 (State.isArrayOf_alike hZ.alike Ar14.2.1) (g := (mkF m 214 #[.val (.ref a), .val (.ref ti), .val (.ref va), .val (.ref al8), .val (.int (1 : Int32)), .unset, .unset] [(.ref ti), (.int (1 : Int32))])) rfl rfl (hb hby d1_214) _ ?_
   rw [len_of aS14 aN14]
   refine XS.icmpNo X12.here hx rfl (hb hby d1_215) rfl (XT.ii_ge_f (by decide)) ?_
   refine XS.iload X12.here hx rfl (hb hby d1_218) rfl ?_
   refine XS.ifNo X12.here hx rfl (hb hby d1_220) rfl (XT.i0_eq_f (by decide)) ?_
   refine XS.aloadN X12.here hx rfl (hb hby d1_223) rfl rfl ?_
   refine XS.iload X12.here hx rfl (hb hby d1_224) rfl ?_
   refine X12.daload hx (j := (1 : Int32)) (v := (dV tu1)) Ar15.1 (State.isArrayOf_alike hZ.alike Ar15.2.1) Ar15.2.2 hin16 hat16 (g := (mkF m 226 #[.val (.ref a), .val (.ref ti), .val (.ref va), .val (.ref al8), .val (.int (1 : Int32)), .unset, .unset] [(.int (1 : Int32)), (.ref ti)])) rfl rfl (hb hby d1_226) _ ?_
   refine XS.aloadN X12.here hx rfl (hb hby d1_227) rfl rfl ?_
   refine XS.iload X12.here hx rfl (hb hby d1_228) rfl ?_
   refine XS.iconst X12.here hx rfl (hb hby d1_230) ?_
   refine XS.isub X12.here hx rfl (hb hby d1_231) rfl ?_
   refine X12.daload hx (j := (0 : Int32)) (v := (dV tu0)) Ar17.1 (State.isArrayOf_alike hZ.alike Ar17.2.1) Ar17.2.2 hin18 hat18 (g := (mkF m 232 #[.val (.ref a), .val (.ref ti), .val (.ref va), .val (.ref al8), .val (.int (1 : Int32)), .unset, .unset] [(.int (0 : Int32)), (.ref ti), (dV tu1)])) rfl rfl (hb hby d1_232) _ ?_
   refine XS.dcmpS X12.here hx rfl (hb hby d1_233) rfl (dcmpV_w b_tu1 b_tu0 _) ?_
   refine XS.ifYes X12.here hx rfl (pc0 := 234) (pc' := 249) rfl (hb hby d1_234) rfl (XT.ll_le_t hk19) (by decide) (by decide) ?_
   refine XS.iinc X12.here hx rfl (hb hby d1_249) rfl (l' := #[.val (.ref a), .val (.ref ti), .val (.ref va), .val (.ref al8), .val (.int (2 : Int32)), .unset, .unset]) rfl ?_
   refine XS.goto X12.here hx rfl (pc0 := 252) (pc' := 211) rfl (hb hby d1_252) (by decide) (by decide) ?_
   refine XS.iload X12.here hx rfl (hb hby d1_211) rfl ?_
   refine XS.aloadN X12.here hx rfl (hb hby d1_213) rfl rfl ?_
   refine X12.arraylength hx Ar20.1 (State.isArrayOf_alike hZ.alike Ar20.2.1) (g := (mkF m 214 #[.val (.ref a), .val (.ref ti), .val (.ref va), .val (.ref al8), .val (.int (2 : Int32)), .unset, .unset] [(.ref ti), (.int (2 : Int32))])) rfl rfl (hb hby d1_214) _ ?_
   rw [len_of aS20 aN20]
   refine XS.icmpNo X12.here hx rfl (hb hby d1_215) rfl (XT.ii_ge_f (by decide)) ?_
   refine XS.iload X12.here hx rfl (hb hby d1_218) rfl ?_
   refine XS.ifNo X12.here hx rfl (hb hby d1_220) rfl (XT.i0_eq_f (by decide)) ?_
   refine XS.aloadN X12.here hx rfl (hb hby d1_223) rfl rfl ?_
   refine XS.iload X12.here hx rfl (hb hby d1_224) rfl ?_
   refine X12.daload hx (j := (2 : Int32)) (v := (dV tu2)) Ar21.1 (State.isArrayOf_alike hZ.alike Ar21.2.1) Ar21.2.2 hin22 hat22 (g := (mkF m 226 #[.val (.ref a), .val (.ref ti), .val (.ref va), .val (.ref al8), .val (.int (2 : Int32)), .unset, .unset] [(.int (2 : Int32)), (.ref ti)])) rfl rfl (hb hby d1_226) _ ?_
   refine XS.aloadN X12.here hx rfl (hb hby d1_227) rfl rfl ?_
   refine XS.iload X12.here hx rfl (hb hby d1_228) rfl ?_
   refine XS.iconst X12.here hx rfl (hb hby d1_230) ?_
   refine XS.isub X12.here hx rfl (hb hby d1_231) rfl ?_
   refine X12.daload hx (j := (1 : Int32)) (v := (dV tu1)) Ar23.1 (State.isArrayOf_alike hZ.alike Ar23.2.1) Ar23.2.2 hin24 hat24 (g := (mkF m 232 #[.val (.ref a), .val (.ref ti), .val (.ref va), .val (.ref al8), .val (.int (2 : Int32)), .unset, .unset] [(.int (1 : Int32)), (.ref ti), (dV tu2)])) rfl rfl (hb hby d1_232) _ ?_
   refine XS.dcmpS X12.here hx rfl (hb hby d1_233) rfl (dcmpV_w b_tu2 b_tu1 _) ?_
   refine XS.ifNo X12.here hx rfl (hb hby d1_234) rfl (XT.ll_le_f hk25) ?_
   refine XS.aloadN X12.here hx rfl (hb hby d1_237) rfl rfl ?_
   refine XS.iload X12.here hx rfl (hb hby d1_238) rfl ?_
   refine st26 _ ?_
   refine st28.trans ?_
   exact kk
  exact ⟨T28, _, T28.heap, al8, b12, b_k12, X28, N28, rfl, Zs29, KC29, P8_0, P8_1, P8_2, P8_3, P8_4, P8_5, P8_6, P8_7, P28_1, P28_2, P28_3, Ov_b_k12, o8_0, gb12, o8_1, szb12, o8_2, o8_3, o8_4, ne_a_b12, ne_ti_b12, ne_va_b12, ne_al8_b12, pre30⟩
 clear pre0 X0 N0 e0 KC0 Z0 E_a F_times F_values F_instants F_lefts F_rights V_ti E_ti V_va E_va EN
 obtain ⟨cl32, Ar32, aq32, aS32, aN32, aH32, aG32⟩ := id P8_4_c31
 obtain ⟨T33, lo33, H33, di33, di_k33, dl33, dl_k33, dr33, dr_k33, X33, N33, e33, Zs33, KC33, P33_0, P33_1, P33_2, P33_3, P33_4, P33_5, P33_6, o33_0, o33_1, o33_2, o33_3, o33_4, o33_5, st33⟩ := sC2 hw hx hby hml hZ hown hnm a ti ti_k va va_k ((3 : Int32)) ([(dV tu0), (dV tu1), (dV tu2)]) ([(dV vu0), (dV vu1), (dV vu2)]) ((3 : Int32)) al8 b12 b_k12 i0 i2 ((0 : Int32)) ((2 : Int32)) tu0 tu2 vu2 vu1 vu2 X31 N31 e31 Zs31 KC31 P8_0_c31 P8_1_c31 P8_2_c31 P8_3_c31 P8_4_c31 P8_5_c31 P8_7_c31 P28_1_c31 P28_2_c31 P28_3_c31 P8_6_c31.e0 P8_6_c31.e2 P8_6_c31.f0 P8_6_c31.f2 g_a ne_ti_a ne_va_a (Ne.symm nesc31_2) (Ne.symm nesc31_5) (own_ne2 P8_6_c31.b0 k_a) (own_ne2 P8_6_c31.b2 k_a) (by decide) rfl (by decide) rfl (by decide) rfl (by decide) rfl rfl
 obtain ⟨fs, hr, hrun, hended, hW, hsame⟩ := X33.leave (v := none) (fun _ => rfl)
 refine ⟨_, _, pre31 _ ?_, hrun, hended, _, _, rfl, ?_, ⟨_, rfl⟩, hW, hsame.mono (by decide) (by decide)⟩
 ·skip
  refine XS.pop X31.here hx rfl (hb hby d1_248) rfl rfl ?_
  refine XS.iinc X31.here hx rfl (hb hby d1_249) rfl (l' := #[.val (.ref a), .val (.ref ti), .val (.ref va), .val (.ref al8), .val (.int (3 : Int32)), .unset, .unset]) rfl ?_
  refine XS.goto X31.here hx rfl (pc0 := 252) (pc' := 211) rfl (hb hby d1_252) (by decide) (by decide) ?_
  refine XS.iload X31.here hx rfl (hb hby d1_211) rfl ?_
  refine XS.aloadN X31.here hx rfl (hb hby d1_213) rfl rfl ?_
  refine X31.arraylength hx (by rw [e31]; exact Ar32.1) (State.isArrayOf_alike hZ.alike Ar32.2.1) (g := (mkF m 214 #[.val (.ref a), .val (.ref ti), .val (.ref va), .val (.ref al8), .val (.int (3 : Int32)), .unset, .unset] [(.ref ti), (.int (3 : Int32))])) rfl rfl (hb hby d1_214) _ ?_
  rw [len_of aS32 aN32]
  refine XS.icmpYes X31.here hx rfl (pc0 := 215) (pc' := 255) rfl (hb hby d1_215) rfl (XT.ii_ge_t (by decide)) (by decide) (by decide) ?_
  refine st33 _ ?_
  exact X33.returnOut hx Bd.returns (hb hby d1_409) hr
 ·show QC3ft Z a ti ti_k va va_k kB aE kE aC kC lC i0 i1 i2 tu0 tu1 tu2 vu0 vu1 vu2 h0 n0 _ T33.heap _
  rw [e33]
  exact ⟨di33, di_k33, dl33, dl_k33, dr33, dr_k33, rfl, N33, KC33, o33_0, o33_1, o33_2, o33_3, o33_4, o33_5, P33_0, P33_1, P33_2, P33_3, P33_4, P33_5, P33_6⟩
def QC3ff (Z : State) (a : Addr) (ti : Addr) (ti_k : ClassId) (va : Addr) (va_k : ClassId) (kB : Nat) (aE : Addr) (kE : ClassId) (aC : Addr) (kC : ClassId) (lC : List Value) (i0 : Addr) (i1 : Addr) (i2 : Addr) (tu0 : Int64) (tu1 : Int64) (tu2 : Int64) (vu0 : Int64) (vu1 : Int64) (vu2 : Int64) (h0 : Heap) (n0 : Nat) (v : Option Value) (h : Heap) (L : List Loc) : Prop := ∃ (di : Addr) (di_k : ClassId) (dl : Addr) (dl_k : ClassId) (dr : Addr) (dr_k : ClassId), v = none ∧ Fr n0 L ∧ Keep h0 h [a] ∧ n0 ≤ di ∧ h0.size ≤ di ∧ n0 ≤ dl ∧ h0.size ≤ dl ∧ n0 ≤ dr ∧ h0.size ≤ dr ∧ Exa Z h a cF ∧ Fld Z h a cF "instants" "[D" (.ref di) ∧ Fld Z h a cF "lefts" "[D" (.ref dl) ∧ Fld Z h a cF "rights" "[D" (.ref dr) ∧ Arv Z h di di_k .double (1 : Int32) [(dV tu0)] dZ ∧ Arv Z h dl dl_k .double (1 : Int32) [dZ] dZ ∧ Arv Z h dr dr_k .double (1 : Int32) [(dV vu2)] dZ
set_option maxRecDepth 65536 in
set_option maxHeartbeats 40000000 in
theorem rmC3ff (l : Launch) (Z : State) (a0 : Array Value) (hw : HW a0 Z) (ws : List Jvm.Cond) (a : Addr) (ti : Addr) (ti_k : ClassId) (va : Addr) (va_k : ClassId) (kB : Nat) (aE : Addr) (kE : ClassId) (aC : Addr) (kC : ClassId) (lC : List Value) (i0 : Addr) (i1 : Addr) (i2 : Addr) (tu0 : Int64) (tu1 : Int64) (tu2 : Int64) (vu0 : Int64) (vu1 : Int64) (vu2 : Int64) (h0 : Heap) (n0 : Nat) (Z0 : n0 ≤ h0.size) (E_a : Exa Z h0 a cF) (F_times : Fld Z h0 a cF "times" "[D" .null) (F_values : Fld Z h0 a cF "values" "[D" .null) (F_instants : Fld Z h0 a cF "instants" "[D" .null) (F_lefts : Fld Z h0 a cF "lefts" "[D" .null) (F_rights : Fld Z h0 a cF "rights" "[D" .null) (V_ti : Arv Z h0 ti ti_k .double (3 : Int32) [(dV tu0), (dV tu1), (dV tu2)] dZ) (E_ti : Exa Z h0 ti "[D") (V_va : Arv Z h0 va va_k .double (3 : Int32) [(dV vu0), (dV vu1), (dV vu2)] dZ) (E_va : Exa Z h0 va "[D") (EN : EnvJ Z kB h0 aE kE aC kC lC i0 i1 i2) (hkB : kB ≤ h0.size) (k_a : kB ≤ a) (g_a : n0 ≤ a) (ne_ti_a : ti ≠ a) (ne_va_a : va ≠ a) (b_tu0 : B53 tu0) (b_tu1 : B53 tu1) (b_tu2 : B53 tu2) (b_vu0 : B53 vu0) (b_vu1 : B53 vu1) (b_vu2 : B53 vu2) (ov0 : ¬ vu0 < (0 : Int64)) (ot1 : ¬ tu1 < tu0) (ov1 : ¬ vu1 < vu0) (ps1 : ¬ tu0 < tu1) (ot2 : ¬ tu2 < tu1) (ov2 : ¬ vu2 < vu1) (ps2 : ¬ tu1 < tu2) :
    MetFree l M18 (head1 (Jvm.Cond.code M18 prog_37_method_1_code 7 none :: ws) R5_7_28_108) (fun ar UU => ar = #[(.ref a), (.ref ti), (.ref va)] ∧ Z.Warmed39 UU.vm ∧ UU.heap = h0) (fun _ _ _ _ _ => True) (fun _ UU oo UU' => ∃ vv LL, oo = .returned vv ∧ QC3ff Z a ti ti_k va va_k kB aE kE aC kC lC i0 i1 i2 tu0 tu1 tu2 vu0 vu1 vu2 h0 n0 vv UU'.heap LL ∧ FrameEnd UU oo UU' LL R5_7_28_108.cells R5_7_28_108.slots) := by
 refine MetFree.of_bodySF (plainFor_of_name pn_1) hisR ?_
 intro p e s m args below meth c s₁ Bd hml0 hP hK
 obtain ⟨rfl, hZ, hh⟩ := hP
 have hx := Bd.exec
 have hby := Bd.bytes
 have hml : c.maxLocals = 7 := hml0
 have hown : s.vm.findClass "com/example/narrow_bound/narrowbound/witness/CumulativeFunction" = some m.cls := findClass_of_methodNamed Bd.named
 have hnm := (name_of_methodNamed Bd.named Bd.method).1
 have X0 : Stand p l e R5_7_28_108 s m #[(.ref a), (.ref ti), (.ref va)] below meth c s₁ [] 0 0 := Stand.of_body Bd
 have e0 : s₁.heap = h0 := by rw [← hh, Bd.state]; rfl
 have N0 := Fr.nil n0
 have KC0 : Keep h0 h0 [a] := Keep.refl h0 [a]
 have pre0 : ∀ tgt, Steps p.tables e below (s₁.setTop (mkF m 0 #[.val (.ref a), .val (.ref ti), .val (.ref va), .unset, .unset, .unset, .unset] [])) tgt → Steps p.tables e below (s₁.setTop (entryFrame m #[(.ref a), (.ref ti), (.ref va)] 7)) tgt := fun tgt kk => castTop (ef1_RRR m (a) (ti) (va)) kk
 generalize hI : s₁.setTop (entryFrame m #[(.ref a), (.ref ti), (.ref va)] 7) = I0 at pre0 ⊢
 obtain ⟨T29, lo29, Hc29, al8, di27, dl27, dr27, di_k27, dl_k27, dr_k27, X29, N29, e29, Zs29, KC29, P27_0_c29, P27_1_c29, P27_2_c29, P27_3_c29, P27_4_c29, P27_5_c29, P27_6_c29, gnc29_1, gnc29_3, gnc29_4, gnc29_5, szc29_0, szc29_2, szc29_3, szc29_4, nesc29_2, nesc29_3, nesc29_4, pre29⟩ : ∃ (T29 : State) (lo29 : List Loc) (Hc29 : Heap) (al8 : Addr) (di27 : Addr) (dl27 : Addr) (dr27 : Addr) (di_k27 : ClassId) (dl_k27 : ClassId) (dr_k27 : ClassId), Stand p l e R5_7_28_108 s m #[(.ref a), (.ref ti), (.ref va)] below meth c T29 lo29 7 22 ∧ Fr n0 lo29 ∧ T29.heap = Hc29 ∧ n0 ≤ Hc29.size ∧ Keep h0 Hc29 [a] ∧ Exa Z Hc29 a cF ∧ Fld Z Hc29 a cF "instants" "[D" (.ref di27) ∧ Fld Z Hc29 a cF "lefts" "[D" (.ref dl27) ∧ Fld Z Hc29 a cF "rights" "[D" (.ref dr27) ∧ Arv Z Hc29 di27 di_k27 .double (1 : Int32) [(dV tu0)] dZ ∧ Arv Z Hc29 dl27 dl_k27 .double (1 : Int32) [dZ] dZ ∧ Arv Z Hc29 dr27 dr_k27 .double (1 : Int32) [(dV vu2)] dZ ∧ n0 ≤ al8 ∧ n0 ≤ di27 ∧ n0 ≤ dl27 ∧ n0 ≤ dr27 ∧ h0.size ≤ al8 ∧ h0.size ≤ di27 ∧ h0.size ≤ dl27 ∧ h0.size ≤ dr27 ∧ a ≠ al8 ∧ ti ≠ al8 ∧ va ≠ al8 ∧ Pr p e below I0 T29 (mkF m 409 #[.val (.ref a), .val (.ref ti), .val (.ref va), .val (.ref al8), .val (.int (1 : Int32)), .val (.int (0 : Int32)), .val (.int ((3 : Int32) - (1 : Int32)))] []) := by
  obtain ⟨T1, X1, e1, st1⟩ := initO X0 hx hZ hown (tw7 hw) (tw8 hw) (tw9 hw) e0 (g := (mkF m 1 #[.val (.ref a), .val (.ref ti), .val (.ref va), .unset, .unset, .unset, .unset] [(.ref a)])) rfl (by rw [hml]; rfl) rfl (hb hby d1_1) (by decide) (W := 0) (own_mr rfl) (by decide)
  obtain ⟨cl2, Ar2, aq2, aS2, aN2, aH2, aG2⟩ := id V_ti
  obtain ⟨cl3, Ar3, aq3, aS3, aN3, aH3, aG3⟩ := id V_va
  obtain ⟨T4, lo4, X4, N4, e4, st4⟩ := sV0 hw hx hby hml hZ hown hnm a ti ti_k va va_k ((3 : Int32)) ([(dV tu0), (dV tu1), (dV tu2)]) ([(dV vu0), (dV vu1), (dV vu2)]) tu0 vu0 X1 N0 e1 Z0 KC0 V_ti V_va (by decide) rfl rfl b_tu0 b_vu0 ov0
  obtain ⟨T5, lo5, X5, N5, e5, st5⟩ := sV1 hw hx hby hml hZ hown hnm a ti ti_k va va_k ((3 : Int32)) ([(dV tu0), (dV tu1), (dV tu2)]) ([(dV vu0), (dV vu1), (dV vu2)]) ((1 : Int32)) ((2 : Int32)) tu0 tu1 vu0 vu1 X4 N4 e4 Z0 KC0 V_ti V_va (by decide) (by decide) (by decide) (by decide) (by decide) rfl rfl rfl rfl b_tu0 b_tu1 b_vu0 b_vu1 ot1 ov1
  obtain ⟨T6, lo6, X6, N6, e6, st6⟩ := sV1 hw hx hby hml hZ hown hnm a ti ti_k va va_k ((3 : Int32)) ([(dV tu0), (dV tu1), (dV tu2)]) ([(dV vu0), (dV vu1), (dV vu2)]) ((2 : Int32)) ((3 : Int32)) tu1 tu2 vu1 vu2 X5 N5 e5 Z0 KC0 V_ti V_va (by decide) (by decide) (by decide) (by decide) (by decide) rfl rfl rfl rfl b_tu1 b_tu2 b_vu1 b_vu2 ot2 ov2
  obtain ⟨cl7, Ar7, aq7, aS7, aN7, aH7, aG7⟩ := id V_ti
  obtain ⟨T8, lo8, H8, al8, X8, N8, e8, Zs8, KC8, P8_0, P8_1, P8_2, P8_3, P8_4, P8_5, P8_6, P8_7, P8_8, P8_9, P8_10, o8_0, o8_1, o8_2, o8_3, o8_4, st8⟩ := sA hw hx hby hml hZ hown hnm a ti ti_k va va_k ((3 : Int32)) ([(dV tu0), (dV tu1), (dV tu2)]) ([(dV vu0), (dV vu1), (dV vu2)]) ((3 : Int32)) kB aE kE aC kC lC i0 i1 i2 X6 N6 e6 Z0 KC0 E_a F_times F_values F_instants F_lefts F_rights V_ti E_ti V_va E_va EN hkB k_a g_a ne_ti_a ne_va_a (by decide)
  obtain ⟨cl9, Ar9, aq9, aS9, aN9, aH9, aG9⟩ := id P8_4
  obtain ⟨_, _, ⟨T10, L10, k10, n10⟩, -, X10, ⟨Lc10, hQ10, l10, y10, z10⟩, st10⟩ := Jvm.LawKit.callS X8 hx (y := M10) hown (mvT hZ (tw82 hw)) (mvT hZ (tw83 hw)) (mvT hZ (tw84 hw)) (mvT hZ (tw85 hw)) (by decide) (backOf (W := 1) (rmV0 l Z a0 hw [] aC kC lC i0 H8 n0 Zs8 P8_6.sH P8_6.sC P8_6.vC P8_6.t0) hZ (tw85 hw) (tw84 hw) (by decide) (by decide)) (g := (mkF m 240 #[.val (.ref a), .val (.ref ti), .val (.ref va), .val (.ref al8), .val (.int (0 : Int32)), .unset, .unset] [(.int (0 : Int32)), (.ref al8)])) rfl (by rw [hml]; rfl) (argsL := [(.int (0 : Int32))]) (rest := [(.ref al8)]) (lenOf pd__I_Ljava_lang_Integer_ rfl) rfl (own_mr rfl) (hb hby d1_240) (fun _ _ => ⟨rfl, e8, (by decide : 3 + 0 ≤ _), (by decide : 9 + 0 ≤ _)⟩)
  dsimp only [Pt.U, Pt.locs, Pt.cells, Pt.slots] at X10 l10 y10 z10 st10 hQ10
  rw [l10, y10, z10] at X10
  obtain ⟨rfl, N10q, hh10⟩ := hQ10
  have N10 := Fr.app N8 N10q
  have lt11_0 := P8_0.lt
  obtain ⟨cq12, kq12, q12a, q12b, q12c⟩ := isOf hZ hh10 P8_7
  obtain ⟨_, _, ⟨T12, L12, k12, n12⟩, -, X12, ⟨Lc12, hQ12, l12, y12, z12⟩, st12⟩ := X10.interfaceBack hx (xi := M19) (y := M9) hown (mvT hZ (tw89 hw)) (mvT hZ (tw90 hw)) (mvT hZ (tw91 hw)) (mvT hZ (tw92 hw)) (mvT hZ (tw93 hw)) (mvT hZ (tw94 hw)) (mvT hZ (tw95 hw)) (mvT hZ (tw54 hw)) (by decide) (backOf (W := 0) (rmA0 l Z a0 hw [] al8 aE kE i0 H8 n0 Zs8 P8_7 P8_8 P8_9 P8_10 P8_6.sD P8_6.vE o8_0 (own_ne2 P8_6.bE (Nat.le_trans hkB o8_1)) P8_6.e0) hZ (tw96 hw) (tw25 hw) (by decide) (by decide)) q12a q12b q12c (g := (mkF m 243 #[.val (.ref a), .val (.ref ti), .val (.ref va), .val (.ref al8), .val (.int (0 : Int32)), .unset, .unset] [(.ref i0), (.ref al8)])) rfl (by rw [hml]; rfl) (Steps.refl _) (argsL := [(.ref i0)]) (rest := []) (lenOf pd__Ljava_lang_Object__Z rfl) rfl (own_mr rfl) (hb hby d1_243) (fun _ _ => ⟨rfl, hh10, (by decide : 3 + 1 ≤ _), (by decide : 9 + 10 ≤ _)⟩)
  dsimp only [Pt.U, Pt.locs, Pt.cells, Pt.slots] at X12 l12 y12 z12 st12 hQ12
  rw [l12, y12, z12] at X12
  obtain ⟨b12, b_k12, rfl, N12q, K12, gb12, sb12, Ov_b_k12, -, P12_1, P12_2, P12_3⟩ := hQ12
  have N12 := Fr.app N10 N12q
  have pl27_al8 := own_plain_Exa P8_7
  replace P8_0 := P8_0.keep K12
  replace P8_1 := P8_1.keep K12 (ninS o8_2 nin0)
  replace P8_2 := P8_2.keep K12 (ninS o8_2 nin0)
  replace P8_3 := P8_3.keep K12 (ninS o8_2 nin0)
  replace P8_4 := P8_4.keep K12 (ninS o8_3 nin0)
  replace P8_5 := P8_5.keep K12 (ninS o8_4 nin0)
  replace P8_6 := P8_6.keep K12 (allS (Nat.le_trans hkB o8_1) all0) (allS pl27_al8 all0)
  replace P8_7 := P8_7.keep K12
  have Zs13 := Nat.le_trans Zs8 K12.1
  have KC13 := KC8.trans K12 (allS (Or.inr o8_1) all0)
  have ne_a_b12 := own_ne2 lt11_0 sb12
  have szb12 := Nat.le_trans KC8.1 sb12
  obtain ⟨cl14, Ar14, aq14, aS14, aN14, aH14, aG14⟩ := id P8_4
  obtain ⟨cl15, Ar15, aq15, aS15, aN15, aH15, aG15⟩ := id P8_4
  have hin16 : ¬ ((1 : Int32) < 0 ∨ cl15.slots.size ≤ ((1 : Int32)).toNatClampNeg) := inb_of aS15 ⟨by decide, by decide⟩
  have hat16 : cl15.slots[((1 : Int32)).toNatClampNeg]? = some (dV tu1) := Has.at aH15 hin16 rfl
  obtain ⟨cl17, Ar17, aq17, aS17, aN17, aH17, aG17⟩ := id P8_4
  have hin18 : ¬ ((0 : Int32) < 0 ∨ cl17.slots.size ≤ ((0 : Int32)).toNatClampNeg) := inb_of aS17 ⟨by decide, by decide⟩
  have hat18 : cl17.slots[((0 : Int32)).toNatClampNeg]? = some (dV tu0) := Has.at aH17 hin18 rfl
  have hk19 : ¬ (tu0 < tu1) := ps1
  obtain ⟨cl20, Ar20, aq20, aS20, aN20, aH20, aG20⟩ := id P8_4
  obtain ⟨cl21, Ar21, aq21, aS21, aN21, aH21, aG21⟩ := id P8_4
  have hin22 : ¬ ((2 : Int32) < 0 ∨ cl21.slots.size ≤ ((2 : Int32)).toNatClampNeg) := inb_of aS21 ⟨by decide, by decide⟩
  have hat22 : cl21.slots[((2 : Int32)).toNatClampNeg]? = some (dV tu2) := Has.at aH21 hin22 rfl
  obtain ⟨cl23, Ar23, aq23, aS23, aN23, aH23, aG23⟩ := id P8_4
  have hin24 : ¬ ((1 : Int32) < 0 ∨ cl23.slots.size ≤ ((1 : Int32)).toNatClampNeg) := inb_of aS23 ⟨by decide, by decide⟩
  have hat24 : cl23.slots[((1 : Int32)).toNatClampNeg]? = some (dV tu1) := Has.at aH23 hin24 rfl
  have hk25 : ¬ (tu1 < tu2) := ps2
  obtain ⟨cl26, Ar26, aq26, aS26, aN26, aH26, aG26⟩ := id P8_4
  obtain ⟨T27, lo27, H27, di27, di_k27, dl27, dl_k27, dr27, dr_k27, X27, N27, e27, Zs27, KC27, P27_0, P27_1, P27_2, P27_3, P27_4, P27_5, P27_6, o27_0, o27_1, o27_2, o27_3, o27_4, o27_5, st27⟩ := sC1 hw hx hby hml hZ hown hnm a ti ti_k va va_k ((3 : Int32)) ([(dV tu0), (dV tu1), (dV tu2)]) ([(dV vu0), (dV vu1), (dV vu2)]) ((3 : Int32)) al8 b12 b_k12 i0 ((0 : Int32)) tu0 vu2 X12 N12 rfl Zs13 KC13 P8_0 P8_1 P8_2 P8_3 P8_4 P8_5 P8_7 P12_1 P12_2 P12_3 P8_6.e0 P8_6.f0 g_a ne_ti_a ne_va_a (Ne.symm o8_2) (Ne.symm ne_a_b12) (own_ne2 P8_6.b0 k_a) (by decide) rfl (by decide) rfl
  have pre28 : Pr p e below I0 T27 (mkF m 409 #[.val (.ref a), .val (.ref ti), .val (.ref va), .val (.ref al8), .val (.int (1 : Int32)), .val (.int (0 : Int32)), .val (.int ((3 : Int32) - (1 : Int32)))] []) := by
   intro tg kk
   refine pre0 tg ?_
   refine XS.aloadN X0.here hx rfl (hb hby d1_0) rfl rfl ?_
   refine st1 _ ?_
   refine XS.aloadN X1.here hx rfl (hb hby d1_4) rfl rfl ?_
   refine X1.arraylength hx (by rw [e1]; exact Ar2.1) (State.isArrayOf_alike hZ.alike Ar2.2.1) (g := (mkF m 5 #[.val (.ref a), .val (.ref ti), .val (.ref va), .unset, .unset, .unset, .unset] [(.ref ti)])) rfl rfl (hb hby d1_5) _ ?_
   rw [len_of aS2 aN2]
   refine XS.aloadN X1.here hx rfl (hb hby d1_6) rfl rfl ?_
   refine X1.arraylength hx (by rw [e1]; exact Ar3.1) (State.isArrayOf_alike hZ.alike Ar3.2.1) (g := (mkF m 7 #[.val (.ref a), .val (.ref ti), .val (.ref va), .unset, .unset, .unset, .unset] [(.ref va), (.int (3 : Int32))])) rfl rfl (hb hby d1_7) _ ?_
   rw [len_of aS3 aN3]
   refine XS.icmpYes X1.here hx rfl (pc0 := 8) (pc' := 28) rfl (hb hby d1_8) rfl (XT.ii_eq_t (by decide)) (by decide) (by decide) ?_
   refine XS.iconst X1.here hx rfl (hb hby d1_28) ?_
   refine XS.istoreN X1.here hx rfl (hb hby d1_29) rfl (l' := #[.val (.ref a), .val (.ref ti), .val (.ref va), .val (.int (0 : Int32)), .unset, .unset, .unset]) rfl ?_
   refine st4 _ ?_
   refine st5 _ ?_
   refine st6 _ ?_
   refine XS.iloadN X6.here hx rfl (hb hby d1_30) rfl ?_
   refine XS.aloadN X6.here hx rfl (hb hby d1_31) rfl rfl ?_
   refine X6.arraylength hx (by rw [e6]; exact Ar7.1) (State.isArrayOf_alike hZ.alike Ar7.2.1) (g := (mkF m 32 #[.val (.ref a), .val (.ref ti), .val (.ref va), .val (.int (3 : Int32)), .unset, .unset, .unset] [(.ref ti), (.int (3 : Int32))])) rfl rfl (hb hby d1_32) _ ?_
   rw [len_of aS7 aN7]
   refine XS.icmpYes X6.here hx rfl (pc0 := 33) (pc' := 178) rfl (hb hby d1_33) rfl (XT.ii_ge_t (by decide)) (by decide) (by decide) ?_
   refine st8 _ ?_
   refine XS.iload X8.here hx rfl (hb hby d1_211) rfl ?_
   refine XS.aloadN X8.here hx rfl (hb hby d1_213) rfl rfl ?_
   refine X8.arraylength hx (by rw [e8]; exact Ar9.1) (State.isArrayOf_alike hZ.alike Ar9.2.1) (g := (mkF m 214 #[.val (.ref a), .val (.ref ti), .val (.ref va), .val (.ref al8), .val (.int (0 : Int32)), .unset, .unset] [(.ref ti), (.int (0 : Int32))])) rfl rfl (hb hby d1_214) _ ?_
   rw [len_of aS9 aN9]
   refine XS.icmpNo X8.here hx rfl (hb hby d1_215) rfl (XT.ii_ge_f (by decide)) ?_
   refine XS.iload X8.here hx rfl (hb hby d1_218) rfl ?_
   refine XS.ifYes X8.here hx rfl (pc0 := 220) (pc' := 237) rfl (hb hby d1_220) rfl (XT.i0_eq_t (by decide)) (by decide) (by decide) ?_
   refine XS.aloadN X8.here hx rfl (hb hby d1_237) rfl rfl ?_
   refine XS.iload X8.here hx rfl (hb hby d1_238) rfl ?_
   refine st10 _ ?_
   refine st12.trans ?_
   refine XS.pop X12.here hx rfl (hb hby d1_248) rfl rfl ?_
   refine XS.iinc X12.here hx rfl (hb hby d1_249) rfl (l' := #[.val (.ref a), .val (.ref ti), .val (.ref va), .val (.ref al8), .val (.int (1 : Int32)), .unset, .unset]) rfl ?_
   refine XS.goto X12.here hx rfl (pc0 := 252) (pc' := 211) rfl (hb hby d1_252) (by decide) (by decide) ?_
   refine XS.iload X12.here hx rfl (hb hby d1_211) rfl ?_
   refine XS.aloadN X12.here hx rfl (hb hby d1_213) rfl rfl ?_
   refine X12.arraylength hx Ar14.1 (State.isArrayOf_alike hZ.alike Ar14.2.1) (g := (mkF m 214 #[.val (.ref a), .val (.ref ti), .val (.ref va), .val (.ref al8), .val (.int (1 : Int32)), .unset, .unset] [(.ref ti), (.int (1 : Int32))])) rfl rfl (hb hby d1_214) _ ?_
   rw [len_of aS14 aN14]
   refine XS.icmpNo X12.here hx rfl (hb hby d1_215) rfl (XT.ii_ge_f (by decide)) ?_
   refine XS.iload X12.here hx rfl (hb hby d1_218) rfl ?_
   refine XS.ifNo X12.here hx rfl (hb hby d1_220) rfl (XT.i0_eq_f (by decide)) ?_
   refine XS.aloadN X12.here hx rfl (hb hby d1_223) rfl rfl ?_
   refine XS.iload X12.here hx rfl (hb hby d1_224) rfl ?_
   refine X12.daload hx (j := (1 : Int32)) (v := (dV tu1)) Ar15.1 (State.isArrayOf_alike hZ.alike Ar15.2.1) Ar15.2.2 hin16 hat16 (g := (mkF m 226 #[.val (.ref a), .val (.ref ti), .val (.ref va), .val (.ref al8), .val (.int (1 : Int32)), .unset, .unset] [(.int (1 : Int32)), (.ref ti)])) rfl rfl (hb hby d1_226) _ ?_
   refine XS.aloadN X12.here hx rfl (hb hby d1_227) rfl rfl ?_
   refine XS.iload X12.here hx rfl (hb hby d1_228) rfl ?_
   refine XS.iconst X12.here hx rfl (hb hby d1_230) ?_
   refine XS.isub X12.here hx rfl (hb hby d1_231) rfl ?_
   refine X12.daload hx (j := (0 : Int32)) (v := (dV tu0)) Ar17.1 (State.isArrayOf_alike hZ.alike Ar17.2.1) Ar17.2.2 hin18 hat18 (g := (mkF m 232 #[.val (.ref a), .val (.ref ti), .val (.ref va), .val (.ref al8), .val (.int (1 : Int32)), .unset, .unset] [(.int (0 : Int32)), (.ref ti), (dV tu1)])) rfl rfl (hb hby d1_232) _ ?_
   refine XS.dcmpS X12.here hx rfl (hb hby d1_233) rfl (dcmpV_w b_tu1 b_tu0 _) ?_
   refine XS.ifYes X12.here hx rfl (pc0 := 234) (pc' := 249) rfl (hb hby d1_234) rfl (XT.ll_le_t hk19) (by decide) (by decide) ?_
   refine XS.iinc X12.here hx rfl (hb hby d1_249) rfl (l' := #[.val (.ref a), .val (.ref ti), .val (.ref va), .val (.ref al8), .val (.int (2 : Int32)), .unset, .unset]) rfl ?_
   refine XS.goto X12.here hx rfl (pc0 := 252) (pc' := 211) rfl (hb hby d1_252) (by decide) (by decide) ?_
   refine XS.iload X12.here hx rfl (hb hby d1_211) rfl ?_
   refine XS.aloadN X12.here hx rfl (hb hby d1_213) rfl rfl ?_
   refine X12.arraylength hx Ar20.1 (State.isArrayOf_alike hZ.alike Ar20.2.1) (g := (mkF m 214 #[.val (.ref a), .val (.ref ti), .val (.ref va), .val (.ref al8), .val (.int (2 : Int32)), .unset, .unset] [(.ref ti), (.int (2 : Int32))])) rfl rfl (hb hby d1_214) _ ?_
   rw [len_of aS20 aN20]
   refine XS.icmpNo X12.here hx rfl (hb hby d1_215) rfl (XT.ii_ge_f (by decide)) ?_
   refine XS.iload X12.here hx rfl (hb hby d1_218) rfl ?_
   refine XS.ifNo X12.here hx rfl (hb hby d1_220) rfl (XT.i0_eq_f (by decide)) ?_
   refine XS.aloadN X12.here hx rfl (hb hby d1_223) rfl rfl ?_
   refine XS.iload X12.here hx rfl (hb hby d1_224) rfl ?_
   refine X12.daload hx (j := (2 : Int32)) (v := (dV tu2)) Ar21.1 (State.isArrayOf_alike hZ.alike Ar21.2.1) Ar21.2.2 hin22 hat22 (g := (mkF m 226 #[.val (.ref a), .val (.ref ti), .val (.ref va), .val (.ref al8), .val (.int (2 : Int32)), .unset, .unset] [(.int (2 : Int32)), (.ref ti)])) rfl rfl (hb hby d1_226) _ ?_
   refine XS.aloadN X12.here hx rfl (hb hby d1_227) rfl rfl ?_
   refine XS.iload X12.here hx rfl (hb hby d1_228) rfl ?_
   refine XS.iconst X12.here hx rfl (hb hby d1_230) ?_
   refine XS.isub X12.here hx rfl (hb hby d1_231) rfl ?_
   refine X12.daload hx (j := (1 : Int32)) (v := (dV tu1)) Ar23.1 (State.isArrayOf_alike hZ.alike Ar23.2.1) Ar23.2.2 hin24 hat24 (g := (mkF m 232 #[.val (.ref a), .val (.ref ti), .val (.ref va), .val (.ref al8), .val (.int (2 : Int32)), .unset, .unset] [(.int (1 : Int32)), (.ref ti), (dV tu2)])) rfl rfl (hb hby d1_232) _ ?_
   refine XS.dcmpS X12.here hx rfl (hb hby d1_233) rfl (dcmpV_w b_tu2 b_tu1 _) ?_
   refine XS.ifYes X12.here hx rfl (pc0 := 234) (pc' := 249) rfl (hb hby d1_234) rfl (XT.ll_le_t hk25) (by decide) (by decide) ?_
   refine XS.iinc X12.here hx rfl (hb hby d1_249) rfl (l' := #[.val (.ref a), .val (.ref ti), .val (.ref va), .val (.ref al8), .val (.int (3 : Int32)), .unset, .unset]) rfl ?_
   refine XS.goto X12.here hx rfl (pc0 := 252) (pc' := 211) rfl (hb hby d1_252) (by decide) (by decide) ?_
   refine XS.iload X12.here hx rfl (hb hby d1_211) rfl ?_
   refine XS.aloadN X12.here hx rfl (hb hby d1_213) rfl rfl ?_
   refine X12.arraylength hx Ar26.1 (State.isArrayOf_alike hZ.alike Ar26.2.1) (g := (mkF m 214 #[.val (.ref a), .val (.ref ti), .val (.ref va), .val (.ref al8), .val (.int (3 : Int32)), .unset, .unset] [(.ref ti), (.int (3 : Int32))])) rfl rfl (hb hby d1_214) _ ?_
   rw [len_of aS26 aN26]
   refine XS.icmpYes X12.here hx rfl (pc0 := 215) (pc' := 255) rfl (hb hby d1_215) rfl (XT.ii_ge_t (by decide)) (by decide) (by decide) ?_
   refine st27 _ ?_
   exact kk
  exact ⟨T27, _, H27, al8, di27, dl27, dr27, di_k27, dl_k27, dr_k27, X27, N27, e27, Zs27, KC27, P27_0, P27_1, P27_2, P27_3, P27_4, P27_5, P27_6, o8_0, o27_0, o27_2, o27_4, o8_1, o27_1, o27_3, o27_5, o8_2, o8_3, o8_4, pre28⟩
 clear pre0 X0 N0 e0 KC0 Z0 E_a F_times F_values F_instants F_lefts F_rights V_ti E_ti V_va E_va EN
 obtain ⟨fs, hr, hrun, hended, hW, hsame⟩ := X29.leave (v := none) (fun _ => rfl)
 refine ⟨_, _, pre29 _ ?_, hrun, hended, _, _, rfl, ?_, ⟨_, rfl⟩, hW, hsame.mono (by decide) (by decide)⟩
 ·skip
  exact X29.returnOut hx Bd.returns (hb hby d1_409) hr
 ·show QC3ff Z a ti ti_k va va_k kB aE kE aC kC lC i0 i1 i2 tu0 tu1 tu2 vu0 vu1 vu2 h0 n0 _ T29.heap _
  rw [e29]
  exact ⟨di27, di_k27, dl27, dl_k27, dr27, dr_k27, rfl, N29, KC29, gnc29_3, szc29_2, gnc29_4, szc29_3, gnc29_5, szc29_4, P27_0_c29, P27_1_c29, P27_2_c29, P27_3_c29, P27_4_c29, P27_5_c29, P27_6_c29⟩
theorem d22_0 : decode cp_37_12 0 = .ok (.iload_n 1, 1) := by decide +kernel
theorem d22_1 : decode cp_37_12 1 = .ok (.iconst 2, 1) := by decide +kernel
theorem d22_2 : decode cp_37_12 2 = .ok (.irem, 1) := by decide +kernel
theorem d22_3 : decode cp_37_12 3 = .ok (.ifCond .ne 14, 3) := by decide +kernel
theorem d22_6 : decode cp_37_12 6 = .ok (.aload_n 0, 1) := by decide +kernel
theorem d22_7 : decode cp_37_12 7 = .ok (.getfield 68, 3) := by decide +kernel
theorem d22_10 : decode cp_37_12 10 = .ok (.iload_n 1, 1) := by decide +kernel
theorem d22_11 : decode cp_37_12 11 = .ok (.iconst 2, 1) := by decide +kernel
theorem d22_12 : decode cp_37_12 12 = .ok (.idiv, 1) := by decide +kernel
theorem d22_13 : decode cp_37_12 13 = .ok (.daload, 1) := by decide +kernel
theorem d22_14 : decode cp_37_12 14 = .ok (.goto 11, 3) := by decide +kernel
theorem d22_25 : decode cp_37_12 25 = .ok (.dreturn, 1) := by decide +kernel
theorem pn_22 : plainName "com/example/narrow_bound/narrowbound/witness/CumulativeFunction" = true := by first | (simp [plainName, overriddenIn]; done) | decide +kernel
theorem ef22_RI (m : MethodId) (x0 : Addr) (x1 : Int32) : entryFrame m #[(.ref x0), (.int x1)] 2 = mkF m 0 #[.val (.ref x0), .val (.int x1)] [] := by first | (simp [entryFrame, mkF, argsToLocals, Value.category]; done) | rfl
def QRV0 (Z : State) (a : Addr) (d : Addr) (d_k : ClassId) (ln : Int32) (lx : List Value) (q1 : Int64) (h0 : Heap) (n0 : Nat) (v : Option Value) (h : Heap) (L : List Loc) : Prop := v = some (dV q1) ∧ Fr n0 L ∧ h = h0
set_option maxRecDepth 65536 in
set_option maxHeartbeats 40000000 in
theorem rmRV0 (l : Launch) (Z : State) (a0 : Array Value) (hw : HW a0 Z) (ws : List Jvm.Cond) (a : Addr) (d : Addr) (d_k : ClassId) (ln : Int32) (lx : List Value) (q1 : Int64) (h0 : Heap) (n0 : Nat) (Z0 : n0 ≤ h0.size) (F_d : Fld Z h0 a cF "lefts" "[D" (.ref d)) (V_d : Arv Z h0 d d_k .double ln lx dZ) (hin : ¬ (0 : Int32) < 0 ∧ (0 : Int32) < ln) (hat : lx.getD (0 : Int32).toNatClampNeg dZ = dV q1) :
    MetFree l M20 (head1 (Jvm.Cond.code M20 prog_37_method_12_code 2 (some .double) :: ws) R0_0_0_0) (fun ar UU => ar = #[(.ref a), (.int (0 : Int32))] ∧ Z.Warmed39 UU.vm ∧ UU.heap = h0) (fun _ _ _ _ _ => True) (fun _ UU oo UU' => ∃ vv LL, oo = .returned vv ∧ QRV0 Z a d d_k ln lx q1 h0 n0 vv UU'.heap LL ∧ FrameEnd UU oo UU' LL R0_0_0_0.cells R0_0_0_0.slots) := by
 refine MetFree.of_bodySF (plainFor_of_name pn_22) hisR ?_
 intro p e s m args below meth c s₁ Bd hml0 hP hK
 obtain ⟨rfl, hZ, hh⟩ := hP
 have hx := Bd.exec
 have hby := Bd.bytes
 have hml : c.maxLocals = 2 := hml0
 have hown : s.vm.findClass "com/example/narrow_bound/narrowbound/witness/CumulativeFunction" = some m.cls := findClass_of_methodNamed Bd.named
 have hnm := (name_of_methodNamed Bd.named Bd.method).1
 have X0 : Stand p l e R0_0_0_0 s m #[(.ref a), (.int (0 : Int32))] below meth c s₁ [] 0 0 := Stand.of_body Bd
 have e0 : s₁.heap = h0 := by rw [← hh, Bd.state]; rfl
 have N0 := Fr.nil n0
 have KC0 : Keep h0 h0 [] := Keep.refl h0 []
 have pre0 : ∀ tgt, Steps p.tables e below (s₁.setTop (mkF m 0 #[.val (.ref a), .val (.int (0 : Int32))] [])) tgt → Steps p.tables e below (s₁.setTop (entryFrame m #[(.ref a), (.int (0 : Int32))] 2)) tgt := fun tgt kk => castTop (ef22_RI m (a) ((0 : Int32))) kk
 generalize hI : s₁.setTop (entryFrame m #[(.ref a), (.int (0 : Int32))] 2) = I0 at pre0 ⊢
 obtain ⟨T1, X1, e1, st1⟩ := getF X0 hx hZ hown (host := "") (Or.inl (tw60 hw)) Via.refl e0 F_d (g := (mkF m 7 #[.val (.ref a), .val (.int (0 : Int32))] [(.ref a)])) rfl rfl (hb hby d22_7)
 obtain ⟨cl2, Ar2, aq2, aS2, aN2, aH2, aG2⟩ := id V_d
 have hin3 : ¬ ((0 : Int32) < 0 ∨ cl2.slots.size ≤ ((0 : Int32)).toNatClampNeg) := inb_of aS2 hin
 have hat3 : cl2.slots[((0 : Int32)).toNatClampNeg]? = some (dV q1) := Has.at aH2 hin3 hat
 obtain ⟨fs, hr, hrun, hended, hW, hsame⟩ := X1.leave (v := some (dV q1)) (fun h => by rw [Bd.returns] at h; cases h)
 refine ⟨_, _, pre0 _ ?_, hrun, hended, _, _, rfl, ?_, ⟨_, rfl⟩, hW, hsame.mono (by decide) (by decide)⟩
 ·skip
  refine XS.iloadN X0.here hx rfl (hb hby d22_0) rfl ?_
  refine XS.iconst X0.here hx rfl (hb hby d22_1) ?_
  refine iremM X0 hx rfl (hb hby d22_2) rfl (by decide) ?_
  show Steps p.tables e below (s₁.setTop (mkF m 3 #[.val (.ref a), .val (.int (0 : Int32))] [(.int (0 : Int32))])) _
  refine XS.ifNo X0.here hx rfl (hb hby d22_3) rfl (XT.i0_ne_f (by decide)) ?_
  refine XS.aloadN X0.here hx rfl (hb hby d22_6) rfl rfl ?_
  refine st1 _ ?_
  refine XS.iloadN X1.here hx rfl (hb hby d22_10) rfl ?_
  refine XS.iconst X1.here hx rfl (hb hby d22_11) ?_
  refine XS.idiv X1.here hx rfl (hb hby d22_12) rfl (by decide) ?_
  show Steps p.tables e below (T1.setTop (mkF m 13 #[.val (.ref a), .val (.int (0 : Int32))] [(.int (0 : Int32)), (.ref d)])) _
  refine X1.daload hx (j := (0 : Int32)) (v := (dV q1)) (by rw [e1]; exact Ar2.1) (State.isArrayOf_alike hZ.alike Ar2.2.1) Ar2.2.2 hin3 hat3 (g := (mkF m 13 #[.val (.ref a), .val (.int (0 : Int32))] [(.int (0 : Int32)), (.ref d)])) rfl rfl (hb hby d22_13) _ ?_
  refine XS.goto X1.here hx rfl (pc0 := 14) (pc' := 25) rfl (hb hby d22_14) (by decide) (by decide) ?_
  exact retOut X1 hx Bd.returns rfl (Or.inr (Or.inr (Or.inl ⟨rfl, rfl, _, rfl⟩))) (hb hby d22_25) hr
 ·show QRV0 Z a d d_k ln lx q1 h0 n0 _ T1.heap _
  rw [e1]
  exact ⟨rfl, N0, rfl⟩
theorem d22_17 : decode cp_37_12 17 = .ok (.aload_n 0, 1) := by decide +kernel
theorem d22_18 : decode cp_37_12 18 = .ok (.getfield 71, 3) := by decide +kernel
theorem d22_21 : decode cp_37_12 21 = .ok (.iload_n 1, 1) := by decide +kernel
theorem d22_22 : decode cp_37_12 22 = .ok (.iconst 2, 1) := by decide +kernel
theorem d22_23 : decode cp_37_12 23 = .ok (.idiv, 1) := by decide +kernel
theorem d22_24 : decode cp_37_12 24 = .ok (.daload, 1) := by decide +kernel
def QRV1 (Z : State) (a : Addr) (d : Addr) (d_k : ClassId) (ln : Int32) (lx : List Value) (q1 : Int64) (h0 : Heap) (n0 : Nat) (v : Option Value) (h : Heap) (L : List Loc) : Prop := v = some (dV q1) ∧ Fr n0 L ∧ h = h0
set_option maxRecDepth 65536 in
set_option maxHeartbeats 40000000 in
theorem rmRV1 (l : Launch) (Z : State) (a0 : Array Value) (hw : HW a0 Z) (ws : List Jvm.Cond) (a : Addr) (d : Addr) (d_k : ClassId) (ln : Int32) (lx : List Value) (q1 : Int64) (h0 : Heap) (n0 : Nat) (Z0 : n0 ≤ h0.size) (F_d : Fld Z h0 a cF "rights" "[D" (.ref d)) (V_d : Arv Z h0 d d_k .double ln lx dZ) (hin : ¬ (0 : Int32) < 0 ∧ (0 : Int32) < ln) (hat : lx.getD (0 : Int32).toNatClampNeg dZ = dV q1) :
    MetFree l M20 (head1 (Jvm.Cond.code M20 prog_37_method_12_code 2 (some .double) :: ws) R0_0_0_0) (fun ar UU => ar = #[(.ref a), (.int (1 : Int32))] ∧ Z.Warmed39 UU.vm ∧ UU.heap = h0) (fun _ _ _ _ _ => True) (fun _ UU oo UU' => ∃ vv LL, oo = .returned vv ∧ QRV1 Z a d d_k ln lx q1 h0 n0 vv UU'.heap LL ∧ FrameEnd UU oo UU' LL R0_0_0_0.cells R0_0_0_0.slots) := by
 refine MetFree.of_bodySF (plainFor_of_name pn_22) hisR ?_
 intro p e s m args below meth c s₁ Bd hml0 hP hK
 obtain ⟨rfl, hZ, hh⟩ := hP
 have hx := Bd.exec
 have hby := Bd.bytes
 have hml : c.maxLocals = 2 := hml0
 have hown : s.vm.findClass "com/example/narrow_bound/narrowbound/witness/CumulativeFunction" = some m.cls := findClass_of_methodNamed Bd.named
 have hnm := (name_of_methodNamed Bd.named Bd.method).1
 have X0 : Stand p l e R0_0_0_0 s m #[(.ref a), (.int (1 : Int32))] below meth c s₁ [] 0 0 := Stand.of_body Bd
 have e0 : s₁.heap = h0 := by rw [← hh, Bd.state]; rfl
 have N0 := Fr.nil n0
 have KC0 : Keep h0 h0 [] := Keep.refl h0 []
 have pre0 : ∀ tgt, Steps p.tables e below (s₁.setTop (mkF m 0 #[.val (.ref a), .val (.int (1 : Int32))] [])) tgt → Steps p.tables e below (s₁.setTop (entryFrame m #[(.ref a), (.int (1 : Int32))] 2)) tgt := fun tgt kk => castTop (ef22_RI m (a) ((1 : Int32))) kk
 generalize hI : s₁.setTop (entryFrame m #[(.ref a), (.int (1 : Int32))] 2) = I0 at pre0 ⊢
 obtain ⟨T1, X1, e1, st1⟩ := getF X0 hx hZ hown (host := "") (Or.inl (tw62 hw)) Via.refl e0 F_d (g := (mkF m 18 #[.val (.ref a), .val (.int (1 : Int32))] [(.ref a)])) rfl rfl (hb hby d22_18)
 obtain ⟨cl2, Ar2, aq2, aS2, aN2, aH2, aG2⟩ := id V_d
 have hin3 : ¬ ((0 : Int32) < 0 ∨ cl2.slots.size ≤ ((0 : Int32)).toNatClampNeg) := inb_of aS2 hin
 have hat3 : cl2.slots[((0 : Int32)).toNatClampNeg]? = some (dV q1) := Has.at aH2 hin3 hat
 obtain ⟨fs, hr, hrun, hended, hW, hsame⟩ := X1.leave (v := some (dV q1)) (fun h => by rw [Bd.returns] at h; cases h)
 refine ⟨_, _, pre0 _ ?_, hrun, hended, _, _, rfl, ?_, ⟨_, rfl⟩, hW, hsame.mono (by decide) (by decide)⟩
 ·skip
  refine XS.iloadN X0.here hx rfl (hb hby d22_0) rfl ?_
  refine XS.iconst X0.here hx rfl (hb hby d22_1) ?_
  refine iremM X0 hx rfl (hb hby d22_2) rfl (by decide) ?_
  show Steps p.tables e below (s₁.setTop (mkF m 3 #[.val (.ref a), .val (.int (1 : Int32))] [(.int (1 : Int32))])) _
  refine XS.ifYes X0.here hx rfl (pc0 := 3) (pc' := 17) rfl (hb hby d22_3) rfl (XT.i0_ne_t (by decide)) (by decide) (by decide) ?_
  refine XS.aloadN X0.here hx rfl (hb hby d22_17) rfl rfl ?_
  refine st1 _ ?_
  refine XS.iloadN X1.here hx rfl (hb hby d22_21) rfl ?_
  refine XS.iconst X1.here hx rfl (hb hby d22_22) ?_
  refine XS.idiv X1.here hx rfl (hb hby d22_23) rfl (by decide) ?_
  show Steps p.tables e below (T1.setTop (mkF m 24 #[.val (.ref a), .val (.int (1 : Int32))] [(.int (0 : Int32)), (.ref d)])) _
  refine X1.daload hx (j := (0 : Int32)) (v := (dV q1)) (by rw [e1]; exact Ar2.1) (State.isArrayOf_alike hZ.alike Ar2.2.1) Ar2.2.2 hin3 hat3 (g := (mkF m 24 #[.val (.ref a), .val (.int (1 : Int32))] [(.int (0 : Int32)), (.ref d)])) rfl rfl (hb hby d22_24) _ ?_
  exact retOut X1 hx Bd.returns rfl (Or.inr (Or.inr (Or.inl ⟨rfl, rfl, _, rfl⟩))) (hb hby d22_25) hr
 ·show QRV1 Z a d d_k ln lx q1 h0 n0 _ T1.heap _
  rw [e1]
  exact ⟨rfl, N0, rfl⟩
def QRV2 (Z : State) (a : Addr) (d : Addr) (d_k : ClassId) (ln : Int32) (lx : List Value) (q1 : Int64) (h0 : Heap) (n0 : Nat) (v : Option Value) (h : Heap) (L : List Loc) : Prop := v = some (dV q1) ∧ Fr n0 L ∧ h = h0
set_option maxRecDepth 65536 in
set_option maxHeartbeats 40000000 in
theorem rmRV2 (l : Launch) (Z : State) (a0 : Array Value) (hw : HW a0 Z) (ws : List Jvm.Cond) (a : Addr) (d : Addr) (d_k : ClassId) (ln : Int32) (lx : List Value) (q1 : Int64) (h0 : Heap) (n0 : Nat) (Z0 : n0 ≤ h0.size) (F_d : Fld Z h0 a cF "lefts" "[D" (.ref d)) (V_d : Arv Z h0 d d_k .double ln lx dZ) (hin : ¬ (1 : Int32) < 0 ∧ (1 : Int32) < ln) (hat : lx.getD (1 : Int32).toNatClampNeg dZ = dV q1) :
    MetFree l M20 (head1 (Jvm.Cond.code M20 prog_37_method_12_code 2 (some .double) :: ws) R0_0_0_0) (fun ar UU => ar = #[(.ref a), (.int (2 : Int32))] ∧ Z.Warmed39 UU.vm ∧ UU.heap = h0) (fun _ _ _ _ _ => True) (fun _ UU oo UU' => ∃ vv LL, oo = .returned vv ∧ QRV2 Z a d d_k ln lx q1 h0 n0 vv UU'.heap LL ∧ FrameEnd UU oo UU' LL R0_0_0_0.cells R0_0_0_0.slots) := by
 refine MetFree.of_bodySF (plainFor_of_name pn_22) hisR ?_
 intro p e s m args below meth c s₁ Bd hml0 hP hK
 obtain ⟨rfl, hZ, hh⟩ := hP
 have hx := Bd.exec
 have hby := Bd.bytes
 have hml : c.maxLocals = 2 := hml0
 have hown : s.vm.findClass "com/example/narrow_bound/narrowbound/witness/CumulativeFunction" = some m.cls := findClass_of_methodNamed Bd.named
 have hnm := (name_of_methodNamed Bd.named Bd.method).1
 have X0 : Stand p l e R0_0_0_0 s m #[(.ref a), (.int (2 : Int32))] below meth c s₁ [] 0 0 := Stand.of_body Bd
 have e0 : s₁.heap = h0 := by rw [← hh, Bd.state]; rfl
 have N0 := Fr.nil n0
 have KC0 : Keep h0 h0 [] := Keep.refl h0 []
 have pre0 : ∀ tgt, Steps p.tables e below (s₁.setTop (mkF m 0 #[.val (.ref a), .val (.int (2 : Int32))] [])) tgt → Steps p.tables e below (s₁.setTop (entryFrame m #[(.ref a), (.int (2 : Int32))] 2)) tgt := fun tgt kk => castTop (ef22_RI m (a) ((2 : Int32))) kk
 generalize hI : s₁.setTop (entryFrame m #[(.ref a), (.int (2 : Int32))] 2) = I0 at pre0 ⊢
 obtain ⟨T1, X1, e1, st1⟩ := getF X0 hx hZ hown (host := "") (Or.inl (tw60 hw)) Via.refl e0 F_d (g := (mkF m 7 #[.val (.ref a), .val (.int (2 : Int32))] [(.ref a)])) rfl rfl (hb hby d22_7)
 obtain ⟨cl2, Ar2, aq2, aS2, aN2, aH2, aG2⟩ := id V_d
 have hin3 : ¬ ((1 : Int32) < 0 ∨ cl2.slots.size ≤ ((1 : Int32)).toNatClampNeg) := inb_of aS2 hin
 have hat3 : cl2.slots[((1 : Int32)).toNatClampNeg]? = some (dV q1) := Has.at aH2 hin3 hat
 obtain ⟨fs, hr, hrun, hended, hW, hsame⟩ := X1.leave (v := some (dV q1)) (fun h => by rw [Bd.returns] at h; cases h)
 refine ⟨_, _, pre0 _ ?_, hrun, hended, _, _, rfl, ?_, ⟨_, rfl⟩, hW, hsame.mono (by decide) (by decide)⟩
 ·skip
  refine XS.iloadN X0.here hx rfl (hb hby d22_0) rfl ?_
  refine XS.iconst X0.here hx rfl (hb hby d22_1) ?_
  refine iremM X0 hx rfl (hb hby d22_2) rfl (by decide) ?_
  show Steps p.tables e below (s₁.setTop (mkF m 3 #[.val (.ref a), .val (.int (2 : Int32))] [(.int (0 : Int32))])) _
  refine XS.ifNo X0.here hx rfl (hb hby d22_3) rfl (XT.i0_ne_f (by decide)) ?_
  refine XS.aloadN X0.here hx rfl (hb hby d22_6) rfl rfl ?_
  refine st1 _ ?_
  refine XS.iloadN X1.here hx rfl (hb hby d22_10) rfl ?_
  refine XS.iconst X1.here hx rfl (hb hby d22_11) ?_
  refine XS.idiv X1.here hx rfl (hb hby d22_12) rfl (by decide) ?_
  show Steps p.tables e below (T1.setTop (mkF m 13 #[.val (.ref a), .val (.int (2 : Int32))] [(.int (1 : Int32)), (.ref d)])) _
  refine X1.daload hx (j := (1 : Int32)) (v := (dV q1)) (by rw [e1]; exact Ar2.1) (State.isArrayOf_alike hZ.alike Ar2.2.1) Ar2.2.2 hin3 hat3 (g := (mkF m 13 #[.val (.ref a), .val (.int (2 : Int32))] [(.int (1 : Int32)), (.ref d)])) rfl rfl (hb hby d22_13) _ ?_
  refine XS.goto X1.here hx rfl (pc0 := 14) (pc' := 25) rfl (hb hby d22_14) (by decide) (by decide) ?_
  exact retOut X1 hx Bd.returns rfl (Or.inr (Or.inr (Or.inl ⟨rfl, rfl, _, rfl⟩))) (hb hby d22_25) hr
 ·show QRV2 Z a d d_k ln lx q1 h0 n0 _ T1.heap _
  rw [e1]
  exact ⟨rfl, N0, rfl⟩
def QRV3 (Z : State) (a : Addr) (d : Addr) (d_k : ClassId) (ln : Int32) (lx : List Value) (q1 : Int64) (h0 : Heap) (n0 : Nat) (v : Option Value) (h : Heap) (L : List Loc) : Prop := v = some (dV q1) ∧ Fr n0 L ∧ h = h0
set_option maxRecDepth 65536 in
set_option maxHeartbeats 40000000 in
theorem rmRV3 (l : Launch) (Z : State) (a0 : Array Value) (hw : HW a0 Z) (ws : List Jvm.Cond) (a : Addr) (d : Addr) (d_k : ClassId) (ln : Int32) (lx : List Value) (q1 : Int64) (h0 : Heap) (n0 : Nat) (Z0 : n0 ≤ h0.size) (F_d : Fld Z h0 a cF "rights" "[D" (.ref d)) (V_d : Arv Z h0 d d_k .double ln lx dZ) (hin : ¬ (1 : Int32) < 0 ∧ (1 : Int32) < ln) (hat : lx.getD (1 : Int32).toNatClampNeg dZ = dV q1) :
    MetFree l M20 (head1 (Jvm.Cond.code M20 prog_37_method_12_code 2 (some .double) :: ws) R0_0_0_0) (fun ar UU => ar = #[(.ref a), (.int (3 : Int32))] ∧ Z.Warmed39 UU.vm ∧ UU.heap = h0) (fun _ _ _ _ _ => True) (fun _ UU oo UU' => ∃ vv LL, oo = .returned vv ∧ QRV3 Z a d d_k ln lx q1 h0 n0 vv UU'.heap LL ∧ FrameEnd UU oo UU' LL R0_0_0_0.cells R0_0_0_0.slots) := by
 refine MetFree.of_bodySF (plainFor_of_name pn_22) hisR ?_
 intro p e s m args below meth c s₁ Bd hml0 hP hK
 obtain ⟨rfl, hZ, hh⟩ := hP
 have hx := Bd.exec
 have hby := Bd.bytes
 have hml : c.maxLocals = 2 := hml0
 have hown : s.vm.findClass "com/example/narrow_bound/narrowbound/witness/CumulativeFunction" = some m.cls := findClass_of_methodNamed Bd.named
 have hnm := (name_of_methodNamed Bd.named Bd.method).1
 have X0 : Stand p l e R0_0_0_0 s m #[(.ref a), (.int (3 : Int32))] below meth c s₁ [] 0 0 := Stand.of_body Bd
 have e0 : s₁.heap = h0 := by rw [← hh, Bd.state]; rfl
 have N0 := Fr.nil n0
 have KC0 : Keep h0 h0 [] := Keep.refl h0 []
 have pre0 : ∀ tgt, Steps p.tables e below (s₁.setTop (mkF m 0 #[.val (.ref a), .val (.int (3 : Int32))] [])) tgt → Steps p.tables e below (s₁.setTop (entryFrame m #[(.ref a), (.int (3 : Int32))] 2)) tgt := fun tgt kk => castTop (ef22_RI m (a) ((3 : Int32))) kk
 generalize hI : s₁.setTop (entryFrame m #[(.ref a), (.int (3 : Int32))] 2) = I0 at pre0 ⊢
 obtain ⟨T1, X1, e1, st1⟩ := getF X0 hx hZ hown (host := "") (Or.inl (tw62 hw)) Via.refl e0 F_d (g := (mkF m 18 #[.val (.ref a), .val (.int (3 : Int32))] [(.ref a)])) rfl rfl (hb hby d22_18)
 obtain ⟨cl2, Ar2, aq2, aS2, aN2, aH2, aG2⟩ := id V_d
 have hin3 : ¬ ((1 : Int32) < 0 ∨ cl2.slots.size ≤ ((1 : Int32)).toNatClampNeg) := inb_of aS2 hin
 have hat3 : cl2.slots[((1 : Int32)).toNatClampNeg]? = some (dV q1) := Has.at aH2 hin3 hat
 obtain ⟨fs, hr, hrun, hended, hW, hsame⟩ := X1.leave (v := some (dV q1)) (fun h => by rw [Bd.returns] at h; cases h)
 refine ⟨_, _, pre0 _ ?_, hrun, hended, _, _, rfl, ?_, ⟨_, rfl⟩, hW, hsame.mono (by decide) (by decide)⟩
 ·skip
  refine XS.iloadN X0.here hx rfl (hb hby d22_0) rfl ?_
  refine XS.iconst X0.here hx rfl (hb hby d22_1) ?_
  refine iremM X0 hx rfl (hb hby d22_2) rfl (by decide) ?_
  show Steps p.tables e below (s₁.setTop (mkF m 3 #[.val (.ref a), .val (.int (3 : Int32))] [(.int (1 : Int32))])) _
  refine XS.ifYes X0.here hx rfl (pc0 := 3) (pc' := 17) rfl (hb hby d22_3) rfl (XT.i0_ne_t (by decide)) (by decide) (by decide) ?_
  refine XS.aloadN X0.here hx rfl (hb hby d22_17) rfl rfl ?_
  refine st1 _ ?_
  refine XS.iloadN X1.here hx rfl (hb hby d22_21) rfl ?_
  refine XS.iconst X1.here hx rfl (hb hby d22_22) ?_
  refine XS.idiv X1.here hx rfl (hb hby d22_23) rfl (by decide) ?_
  show Steps p.tables e below (T1.setTop (mkF m 24 #[.val (.ref a), .val (.int (3 : Int32))] [(.int (1 : Int32)), (.ref d)])) _
  refine X1.daload hx (j := (1 : Int32)) (v := (dV q1)) (by rw [e1]; exact Ar2.1) (State.isArrayOf_alike hZ.alike Ar2.2.1) Ar2.2.2 hin3 hat3 (g := (mkF m 24 #[.val (.ref a), .val (.int (3 : Int32))] [(.int (1 : Int32)), (.ref d)])) rfl rfl (hb hby d22_24) _ ?_
  exact retOut X1 hx Bd.returns rfl (Or.inr (Or.inr (Or.inl ⟨rfl, rfl, _, rfl⟩))) (hb hby d22_25) hr
 ·show QRV3 Z a d d_k ln lx q1 h0 n0 _ T1.heap _
  rw [e1]
  exact ⟨rfl, N0, rfl⟩
def QRV4 (Z : State) (a : Addr) (d : Addr) (d_k : ClassId) (ln : Int32) (lx : List Value) (q1 : Int64) (h0 : Heap) (n0 : Nat) (v : Option Value) (h : Heap) (L : List Loc) : Prop := v = some (dV q1) ∧ Fr n0 L ∧ h = h0
set_option maxRecDepth 65536 in
set_option maxHeartbeats 40000000 in
theorem rmRV4 (l : Launch) (Z : State) (a0 : Array Value) (hw : HW a0 Z) (ws : List Jvm.Cond) (a : Addr) (d : Addr) (d_k : ClassId) (ln : Int32) (lx : List Value) (q1 : Int64) (h0 : Heap) (n0 : Nat) (Z0 : n0 ≤ h0.size) (F_d : Fld Z h0 a cF "lefts" "[D" (.ref d)) (V_d : Arv Z h0 d d_k .double ln lx dZ) (hin : ¬ (2 : Int32) < 0 ∧ (2 : Int32) < ln) (hat : lx.getD (2 : Int32).toNatClampNeg dZ = dV q1) :
    MetFree l M20 (head1 (Jvm.Cond.code M20 prog_37_method_12_code 2 (some .double) :: ws) R0_0_0_0) (fun ar UU => ar = #[(.ref a), (.int (4 : Int32))] ∧ Z.Warmed39 UU.vm ∧ UU.heap = h0) (fun _ _ _ _ _ => True) (fun _ UU oo UU' => ∃ vv LL, oo = .returned vv ∧ QRV4 Z a d d_k ln lx q1 h0 n0 vv UU'.heap LL ∧ FrameEnd UU oo UU' LL R0_0_0_0.cells R0_0_0_0.slots) := by
 refine MetFree.of_bodySF (plainFor_of_name pn_22) hisR ?_
 intro p e s m args below meth c s₁ Bd hml0 hP hK
 obtain ⟨rfl, hZ, hh⟩ := hP
 have hx := Bd.exec
 have hby := Bd.bytes
 have hml : c.maxLocals = 2 := hml0
 have hown : s.vm.findClass "com/example/narrow_bound/narrowbound/witness/CumulativeFunction" = some m.cls := findClass_of_methodNamed Bd.named
 have hnm := (name_of_methodNamed Bd.named Bd.method).1
 have X0 : Stand p l e R0_0_0_0 s m #[(.ref a), (.int (4 : Int32))] below meth c s₁ [] 0 0 := Stand.of_body Bd
 have e0 : s₁.heap = h0 := by rw [← hh, Bd.state]; rfl
 have N0 := Fr.nil n0
 have KC0 : Keep h0 h0 [] := Keep.refl h0 []
 have pre0 : ∀ tgt, Steps p.tables e below (s₁.setTop (mkF m 0 #[.val (.ref a), .val (.int (4 : Int32))] [])) tgt → Steps p.tables e below (s₁.setTop (entryFrame m #[(.ref a), (.int (4 : Int32))] 2)) tgt := fun tgt kk => castTop (ef22_RI m (a) ((4 : Int32))) kk
 generalize hI : s₁.setTop (entryFrame m #[(.ref a), (.int (4 : Int32))] 2) = I0 at pre0 ⊢
 obtain ⟨T1, X1, e1, st1⟩ := getF X0 hx hZ hown (host := "") (Or.inl (tw60 hw)) Via.refl e0 F_d (g := (mkF m 7 #[.val (.ref a), .val (.int (4 : Int32))] [(.ref a)])) rfl rfl (hb hby d22_7)
 obtain ⟨cl2, Ar2, aq2, aS2, aN2, aH2, aG2⟩ := id V_d
 have hin3 : ¬ ((2 : Int32) < 0 ∨ cl2.slots.size ≤ ((2 : Int32)).toNatClampNeg) := inb_of aS2 hin
 have hat3 : cl2.slots[((2 : Int32)).toNatClampNeg]? = some (dV q1) := Has.at aH2 hin3 hat
 obtain ⟨fs, hr, hrun, hended, hW, hsame⟩ := X1.leave (v := some (dV q1)) (fun h => by rw [Bd.returns] at h; cases h)
 refine ⟨_, _, pre0 _ ?_, hrun, hended, _, _, rfl, ?_, ⟨_, rfl⟩, hW, hsame.mono (by decide) (by decide)⟩
 ·skip
  refine XS.iloadN X0.here hx rfl (hb hby d22_0) rfl ?_
  refine XS.iconst X0.here hx rfl (hb hby d22_1) ?_
  refine iremM X0 hx rfl (hb hby d22_2) rfl (by decide) ?_
  show Steps p.tables e below (s₁.setTop (mkF m 3 #[.val (.ref a), .val (.int (4 : Int32))] [(.int (0 : Int32))])) _
  refine XS.ifNo X0.here hx rfl (hb hby d22_3) rfl (XT.i0_ne_f (by decide)) ?_
  refine XS.aloadN X0.here hx rfl (hb hby d22_6) rfl rfl ?_
  refine st1 _ ?_
  refine XS.iloadN X1.here hx rfl (hb hby d22_10) rfl ?_
  refine XS.iconst X1.here hx rfl (hb hby d22_11) ?_
  refine XS.idiv X1.here hx rfl (hb hby d22_12) rfl (by decide) ?_
  show Steps p.tables e below (T1.setTop (mkF m 13 #[.val (.ref a), .val (.int (4 : Int32))] [(.int (2 : Int32)), (.ref d)])) _
  refine X1.daload hx (j := (2 : Int32)) (v := (dV q1)) (by rw [e1]; exact Ar2.1) (State.isArrayOf_alike hZ.alike Ar2.2.1) Ar2.2.2 hin3 hat3 (g := (mkF m 13 #[.val (.ref a), .val (.int (4 : Int32))] [(.int (2 : Int32)), (.ref d)])) rfl rfl (hb hby d22_13) _ ?_
  refine XS.goto X1.here hx rfl (pc0 := 14) (pc' := 25) rfl (hb hby d22_14) (by decide) (by decide) ?_
  exact retOut X1 hx Bd.returns rfl (Or.inr (Or.inr (Or.inl ⟨rfl, rfl, _, rfl⟩))) (hb hby d22_25) hr
 ·show QRV4 Z a d d_k ln lx q1 h0 n0 _ T1.heap _
  rw [e1]
  exact ⟨rfl, N0, rfl⟩
def QRV5 (Z : State) (a : Addr) (d : Addr) (d_k : ClassId) (ln : Int32) (lx : List Value) (q1 : Int64) (h0 : Heap) (n0 : Nat) (v : Option Value) (h : Heap) (L : List Loc) : Prop := v = some (dV q1) ∧ Fr n0 L ∧ h = h0
set_option maxRecDepth 65536 in
set_option maxHeartbeats 40000000 in
theorem rmRV5 (l : Launch) (Z : State) (a0 : Array Value) (hw : HW a0 Z) (ws : List Jvm.Cond) (a : Addr) (d : Addr) (d_k : ClassId) (ln : Int32) (lx : List Value) (q1 : Int64) (h0 : Heap) (n0 : Nat) (Z0 : n0 ≤ h0.size) (F_d : Fld Z h0 a cF "rights" "[D" (.ref d)) (V_d : Arv Z h0 d d_k .double ln lx dZ) (hin : ¬ (2 : Int32) < 0 ∧ (2 : Int32) < ln) (hat : lx.getD (2 : Int32).toNatClampNeg dZ = dV q1) :
    MetFree l M20 (head1 (Jvm.Cond.code M20 prog_37_method_12_code 2 (some .double) :: ws) R0_0_0_0) (fun ar UU => ar = #[(.ref a), (.int (5 : Int32))] ∧ Z.Warmed39 UU.vm ∧ UU.heap = h0) (fun _ _ _ _ _ => True) (fun _ UU oo UU' => ∃ vv LL, oo = .returned vv ∧ QRV5 Z a d d_k ln lx q1 h0 n0 vv UU'.heap LL ∧ FrameEnd UU oo UU' LL R0_0_0_0.cells R0_0_0_0.slots) := by
 refine MetFree.of_bodySF (plainFor_of_name pn_22) hisR ?_
 intro p e s m args below meth c s₁ Bd hml0 hP hK
 obtain ⟨rfl, hZ, hh⟩ := hP
 have hx := Bd.exec
 have hby := Bd.bytes
 have hml : c.maxLocals = 2 := hml0
 have hown : s.vm.findClass "com/example/narrow_bound/narrowbound/witness/CumulativeFunction" = some m.cls := findClass_of_methodNamed Bd.named
 have hnm := (name_of_methodNamed Bd.named Bd.method).1
 have X0 : Stand p l e R0_0_0_0 s m #[(.ref a), (.int (5 : Int32))] below meth c s₁ [] 0 0 := Stand.of_body Bd
 have e0 : s₁.heap = h0 := by rw [← hh, Bd.state]; rfl
 have N0 := Fr.nil n0
 have KC0 : Keep h0 h0 [] := Keep.refl h0 []
 have pre0 : ∀ tgt, Steps p.tables e below (s₁.setTop (mkF m 0 #[.val (.ref a), .val (.int (5 : Int32))] [])) tgt → Steps p.tables e below (s₁.setTop (entryFrame m #[(.ref a), (.int (5 : Int32))] 2)) tgt := fun tgt kk => castTop (ef22_RI m (a) ((5 : Int32))) kk
 generalize hI : s₁.setTop (entryFrame m #[(.ref a), (.int (5 : Int32))] 2) = I0 at pre0 ⊢
 obtain ⟨T1, X1, e1, st1⟩ := getF X0 hx hZ hown (host := "") (Or.inl (tw62 hw)) Via.refl e0 F_d (g := (mkF m 18 #[.val (.ref a), .val (.int (5 : Int32))] [(.ref a)])) rfl rfl (hb hby d22_18)
 obtain ⟨cl2, Ar2, aq2, aS2, aN2, aH2, aG2⟩ := id V_d
 have hin3 : ¬ ((2 : Int32) < 0 ∨ cl2.slots.size ≤ ((2 : Int32)).toNatClampNeg) := inb_of aS2 hin
 have hat3 : cl2.slots[((2 : Int32)).toNatClampNeg]? = some (dV q1) := Has.at aH2 hin3 hat
 obtain ⟨fs, hr, hrun, hended, hW, hsame⟩ := X1.leave (v := some (dV q1)) (fun h => by rw [Bd.returns] at h; cases h)
 refine ⟨_, _, pre0 _ ?_, hrun, hended, _, _, rfl, ?_, ⟨_, rfl⟩, hW, hsame.mono (by decide) (by decide)⟩
 ·skip
  refine XS.iloadN X0.here hx rfl (hb hby d22_0) rfl ?_
  refine XS.iconst X0.here hx rfl (hb hby d22_1) ?_
  refine iremM X0 hx rfl (hb hby d22_2) rfl (by decide) ?_
  show Steps p.tables e below (s₁.setTop (mkF m 3 #[.val (.ref a), .val (.int (5 : Int32))] [(.int (1 : Int32))])) _
  refine XS.ifYes X0.here hx rfl (pc0 := 3) (pc' := 17) rfl (hb hby d22_3) rfl (XT.i0_ne_t (by decide)) (by decide) (by decide) ?_
  refine XS.aloadN X0.here hx rfl (hb hby d22_17) rfl rfl ?_
  refine st1 _ ?_
  refine XS.iloadN X1.here hx rfl (hb hby d22_21) rfl ?_
  refine XS.iconst X1.here hx rfl (hb hby d22_22) ?_
  refine XS.idiv X1.here hx rfl (hb hby d22_23) rfl (by decide) ?_
  show Steps p.tables e below (T1.setTop (mkF m 24 #[.val (.ref a), .val (.int (5 : Int32))] [(.int (2 : Int32)), (.ref d)])) _
  refine X1.daload hx (j := (2 : Int32)) (v := (dV q1)) (by rw [e1]; exact Ar2.1) (State.isArrayOf_alike hZ.alike Ar2.2.1) Ar2.2.2 hin3 hat3 (g := (mkF m 24 #[.val (.ref a), .val (.int (5 : Int32))] [(.int (2 : Int32)), (.ref d)])) rfl rfl (hb hby d22_24) _ ?_
  exact retOut X1 hx Bd.returns rfl (Or.inr (Or.inr (Or.inl ⟨rfl, rfl, _, rfl⟩))) (hb hby d22_25) hr
 ·show QRV5 Z a d d_k ln lx q1 h0 n0 _ T1.heap _
  rw [e1]
  exact ⟨rfl, N0, rfl⟩
theorem d7_0 : decode cp_37_10 0 = .ok (.iconst 2, 1) := by decide +kernel
theorem d7_1 : decode cp_37_10 1 = .ok (.aload_n 0, 1) := by decide +kernel
theorem d7_2 : decode cp_37_10 2 = .ok (.getfield 65, 3) := by decide +kernel
theorem d7_5 : decode cp_37_10 5 = .ok (.arraylength, 1) := by decide +kernel
theorem d7_6 : decode cp_37_10 6 = .ok (.imul, 1) := by decide +kernel
theorem d7_7 : decode cp_37_10 7 = .ok (.newarray .double, 2) := by decide +kernel
theorem d7_9 : decode cp_37_10 9 = .ok (.astore_n 1, 1) := by decide +kernel
theorem d7_10 : decode cp_37_10 10 = .ok (.iconst 0, 1) := by decide +kernel
theorem d7_11 : decode cp_37_10 11 = .ok (.istore_n 2, 1) := by decide +kernel
theorem d7_12 : decode cp_37_10 12 = .ok (.iload_n 2, 1) := by decide +kernel
theorem d7_13 : decode cp_37_10 13 = .ok (.aload_n 1, 1) := by decide +kernel
theorem d7_14 : decode cp_37_10 14 = .ok (.arraylength, 1) := by decide +kernel
theorem d7_15 : decode cp_37_10 15 = .ok (.if_icmp .ge 17, 3) := by decide +kernel
theorem d7_32 : decode cp_37_10 32 = .ok (.aload_n 1, 1) := by decide +kernel
theorem d7_33 : decode cp_37_10 33 = .ok (.areturn, 1) := by decide +kernel
theorem pn_7 : plainName "com/example/narrow_bound/narrowbound/witness/CumulativeFunction" = true := by first | (simp [plainName, overriddenIn]; done) | decide +kernel
theorem ef7_R (m : MethodId) (x0 : Addr) : entryFrame m #[(.ref x0)] 3 = mkF m 0 #[.val (.ref x0), .unset, .unset] [] := by first | (simp [entryFrame, mkF, argsToLocals, Value.category]; done) | rfl
def QLV0 (Z : State) (a : Addr) (dl : Addr) (dl_k : ClassId) (dr : Addr) (dr_k : ClassId) (di : Addr) (di_k : ClassId) (h0 : Heap) (n0 : Nat) (v : Option Value) (h : Heap) (L : List Loc) : Prop := ∃ (b : Addr) (b_k : ClassId), v = some (.ref b) ∧ Fr n0 L ∧ Keep h0 h [] ∧ n0 ≤ b ∧ h0.size ≤ b ∧ Arv Z h b b_k .double (0 : Int32) [] dZ
set_option maxRecDepth 65536 in
set_option maxHeartbeats 40000000 in
theorem rmLV0 (l : Launch) (Z : State) (a0 : Array Value) (hw : HW a0 Z) (ws : List Jvm.Cond) (a : Addr) (dl : Addr) (dl_k : ClassId) (dr : Addr) (dr_k : ClassId) (di : Addr) (di_k : ClassId) (h0 : Heap) (n0 : Nat) (Z0 : n0 ≤ h0.size) (E_a : Exa Z h0 a cF) (F_instants : Fld Z h0 a cF "instants" "[D" (.ref di)) (V_di : Arv Z h0 di di_k .double (0 : Int32) [] dZ) (F_lefts : Fld Z h0 a cF "lefts" "[D" (.ref dl)) (F_rights : Fld Z h0 a cF "rights" "[D" (.ref dr)) (V_dl : Arv Z h0 dl dl_k .double (0 : Int32) [] dZ) (V_dr : Arv Z h0 dr dr_k .double (0 : Int32) [] dZ) :
    MetFree l M21 (head1 (Jvm.Cond.code M21 prog_37_method_10_code 3 (some (.array .double)) :: ws) R1_1_0_20) (fun ar UU => ar = #[(.ref a)] ∧ Z.Warmed39 UU.vm ∧ UU.heap = h0) (fun _ _ _ _ _ => True) (fun _ UU oo UU' => ∃ vv LL, oo = .returned vv ∧ QLV0 Z a dl dl_k dr dr_k di di_k h0 n0 vv UU'.heap LL ∧ FrameEnd UU oo UU' LL R1_1_0_20.cells R1_1_0_20.slots) := by
 refine MetFree.of_bodySF (plainFor_of_name pn_7) hisR ?_
 intro p e s m args below meth c s₁ Bd hml0 hP hK
 obtain ⟨rfl, hZ, hh⟩ := hP
 have hx := Bd.exec
 have hby := Bd.bytes
 have hml : c.maxLocals = 3 := hml0
 have hown : s.vm.findClass "com/example/narrow_bound/narrowbound/witness/CumulativeFunction" = some m.cls := findClass_of_methodNamed Bd.named
 have hnm := (name_of_methodNamed Bd.named Bd.method).1
 have X0 : Stand p l e R1_1_0_20 s m #[(.ref a)] below meth c s₁ [] 0 0 := Stand.of_body Bd
 have e0 : s₁.heap = h0 := by rw [← hh, Bd.state]; rfl
 have N0 := Fr.nil n0
 have KC0 : Keep h0 h0 [] := Keep.refl h0 []
 have pre0 : ∀ tgt, Steps p.tables e below (s₁.setTop (mkF m 0 #[.val (.ref a), .unset, .unset] [])) tgt → Steps p.tables e below (s₁.setTop (entryFrame m #[(.ref a)] 3)) tgt := fun tgt kk => castTop (ef7_R m (a)) kk
 generalize hI : s₁.setTop (entryFrame m #[(.ref a)] 3) = I0 at pre0 ⊢
 obtain ⟨T1, X1, e1, st1⟩ := getF X0 hx hZ hown (host := "") (Or.inl (tw58 hw)) Via.refl e0 F_instants (g := (mkF m 2 #[.val (.ref a), .unset, .unset] [(.ref a), (.int (2 : Int32))])) rfl rfl (hb hby d7_2)
 obtain ⟨cl2, Ar2, aq2, aS2, aN2, aH2, aG2⟩ := id V_di
 obtain ⟨T3, h3, k3, X3, e3, E3, A3, Ex3, st3⟩ := newPE X1 hx hZ (aty := .double) (tw0 hw) e1 (g := (mkF m 7 #[.val (.ref a), .unset, .unset] [(.int (0 : Int32))])) rfl (hb hby d7_7) rfl (by decide) (cap := 0) (by decide) (by decide) (by decide) (by decide) (ad := "[D") (by decide +kernel)
 obtain ⟨b3, g3⟩ : ∃ z, z = h0.size := ⟨_, rfl⟩
 rw [← g3] at A3 Ex3 st3
 have gn_b3 := own_le Z0 g3
 have sz_b3 := own_le KC0.1 g3
 have Zs4 := Nat.le_trans Z0 E3.1
 have KC4 := KC0.ext E3
 have V_b3 : Arv Z h3 b3 k3 .double (0 : Int32) [] dZ := (Arv.newD A3 (by decide)).pad (pad_rep [] dZ 0)
 obtain ⟨cl5, Ar5, aq5, aS5, aN5, aH5, aG5⟩ := id V_b3
 obtain ⟨fs, hr, hrun, hended, hW, hsame⟩ := X3.leave (v := some (.ref b3)) (fun h => by rw [Bd.returns] at h; cases h)
 refine ⟨_, _, pre0 _ ?_, hrun, hended, _, _, rfl, ?_, ⟨_, rfl⟩, hW, hsame.mono (by decide) (by decide)⟩
 ·skip
  refine XS.iconst X0.here hx rfl (hb hby d7_0) ?_
  refine XS.aloadN X0.here hx rfl (hb hby d7_1) rfl rfl ?_
  refine st1 _ ?_
  refine X1.arraylength hx (by rw [e1]; exact Ar2.1) (State.isArrayOf_alike hZ.alike Ar2.2.1) (g := (mkF m 5 #[.val (.ref a), .unset, .unset] [(.ref di), (.int (2 : Int32))])) rfl rfl (hb hby d7_5) _ ?_
  rw [len_of aS2 aN2]
  refine XS.imul X1.here hx rfl (hb hby d7_6) rfl ?_
  refine st3 _ ?_
  refine XS.astoreN X3.here hx rfl (hb hby d7_9) rfl rfl (l' := #[.val (.ref a), .val (.ref b3), .unset]) rfl ?_
  refine XS.iconst X3.here hx rfl (hb hby d7_10) ?_
  refine XS.istoreN X3.here hx rfl (hb hby d7_11) rfl (l' := #[.val (.ref a), .val (.ref b3), .val (.int (0 : Int32))]) rfl ?_
  refine XS.iloadN X3.here hx rfl (hb hby d7_12) rfl ?_
  refine XS.aloadN X3.here hx rfl (hb hby d7_13) rfl rfl ?_
  refine X3.arraylength hx (by rw [e3]; exact Ar5.1) (State.isArrayOf_alike hZ.alike Ar5.2.1) (g := (mkF m 14 #[.val (.ref a), .val (.ref b3), .val (.int (0 : Int32))] [(.ref b3), (.int (0 : Int32))])) rfl rfl (hb hby d7_14) _ ?_
  rw [len_of aS5 aN5]
  refine XS.icmpYes X3.here hx rfl (pc0 := 15) (pc' := 32) rfl (hb hby d7_15) rfl (XT.ii_ge_t (by decide)) (by decide) (by decide) ?_
  refine XS.aloadN X3.here hx rfl (hb hby d7_32) rfl rfl ?_
  exact retOut X3 hx Bd.returns rfl (Or.inr (Or.inr (Or.inr (Or.inr ⟨rfl, rfl, rfl⟩)))) (hb hby d7_33) hr
 ·show QLV0 Z a dl dl_k dr dr_k di di_k h0 n0 _ T3.heap _
  rw [e3]
  exact ⟨b3, k3, rfl, N0, KC4, gn_b3, sz_b3, V_b3⟩
theorem d7_18 : decode cp_37_10 18 = .ok (.aload_n 1, 1) := by decide +kernel
theorem d7_19 : decode cp_37_10 19 = .ok (.iload_n 2, 1) := by decide +kernel
theorem d7_20 : decode cp_37_10 20 = .ok (.aload_n 0, 1) := by decide +kernel
theorem d7_21 : decode cp_37_10 21 = .ok (.iload_n 2, 1) := by decide +kernel
theorem d7_22 : decode cp_37_10 22 = .ok (.invokevirtual 100, 3) := by decide +kernel
theorem d7_25 : decode cp_37_10 25 = .ok (.dastore, 1) := by decide +kernel
theorem d7_26 : decode cp_37_10 26 = .ok (.iinc 2 1, 3) := by decide +kernel
theorem d7_29 : decode cp_37_10 29 = .ok (.goto (-17), 3) := by decide +kernel
theorem pd__I_D : parseMethodDescriptor "(I)D" = some ⟨[.int], some .double⟩ := by decide +kernel
def QLV1 (Z : State) (a : Addr) (dl : Addr) (dl_k : ClassId) (dr : Addr) (dr_k : ClassId) (xa1 : Int64) (ya1 : Int64) (di : Addr) (di_k : ClassId) (da1 : Int64) (h0 : Heap) (n0 : Nat) (v : Option Value) (h : Heap) (L : List Loc) : Prop := ∃ (b : Addr) (b_k : ClassId), v = some (.ref b) ∧ Fr n0 L ∧ Keep h0 h [] ∧ n0 ≤ b ∧ h0.size ≤ b ∧ Arv Z h b b_k .double (2 : Int32) [(dV xa1), (dV ya1)] dZ
set_option maxRecDepth 65536 in
set_option maxHeartbeats 40000000 in
theorem rmLV1 (l : Launch) (Z : State) (a0 : Array Value) (hw : HW a0 Z) (ws : List Jvm.Cond) (a : Addr) (dl : Addr) (dl_k : ClassId) (dr : Addr) (dr_k : ClassId) (xa1 : Int64) (ya1 : Int64) (di : Addr) (di_k : ClassId) (da1 : Int64) (h0 : Heap) (n0 : Nat) (Z0 : n0 ≤ h0.size) (E_a : Exa Z h0 a cF) (F_instants : Fld Z h0 a cF "instants" "[D" (.ref di)) (V_di : Arv Z h0 di di_k .double (1 : Int32) [(dV da1)] dZ) (F_lefts : Fld Z h0 a cF "lefts" "[D" (.ref dl)) (F_rights : Fld Z h0 a cF "rights" "[D" (.ref dr)) (V_dl : Arv Z h0 dl dl_k .double (1 : Int32) [(dV xa1)] dZ) (V_dr : Arv Z h0 dr dr_k .double (1 : Int32) [(dV ya1)] dZ) :
    MetFree l M21 (head1 (Jvm.Cond.code M21 prog_37_method_10_code 3 (some (.array .double)) :: ws) R1_1_2_20) (fun ar UU => ar = #[(.ref a)] ∧ Z.Warmed39 UU.vm ∧ UU.heap = h0) (fun _ _ _ _ _ => True) (fun _ UU oo UU' => ∃ vv LL, oo = .returned vv ∧ QLV1 Z a dl dl_k dr dr_k xa1 ya1 di di_k da1 h0 n0 vv UU'.heap LL ∧ FrameEnd UU oo UU' LL R1_1_2_20.cells R1_1_2_20.slots) := by
 refine MetFree.of_bodySF (plainFor_of_name pn_7) hisR ?_
 intro p e s m args below meth c s₁ Bd hml0 hP hK
 obtain ⟨rfl, hZ, hh⟩ := hP
 have hx := Bd.exec
 have hby := Bd.bytes
 have hml : c.maxLocals = 3 := hml0
 have hown : s.vm.findClass "com/example/narrow_bound/narrowbound/witness/CumulativeFunction" = some m.cls := findClass_of_methodNamed Bd.named
 have hnm := (name_of_methodNamed Bd.named Bd.method).1
 have X0 : Stand p l e R1_1_2_20 s m #[(.ref a)] below meth c s₁ [] 0 0 := Stand.of_body Bd
 have e0 : s₁.heap = h0 := by rw [← hh, Bd.state]; rfl
 have N0 := Fr.nil n0
 have KC0 : Keep h0 h0 [] := Keep.refl h0 []
 have pre0 : ∀ tgt, Steps p.tables e below (s₁.setTop (mkF m 0 #[.val (.ref a), .unset, .unset] [])) tgt → Steps p.tables e below (s₁.setTop (entryFrame m #[(.ref a)] 3)) tgt := fun tgt kk => castTop (ef7_R m (a)) kk
 generalize hI : s₁.setTop (entryFrame m #[(.ref a)] 3) = I0 at pre0 ⊢
 obtain ⟨T1, X1, e1, st1⟩ := getF X0 hx hZ hown (host := "") (Or.inl (tw58 hw)) Via.refl e0 F_instants (g := (mkF m 2 #[.val (.ref a), .unset, .unset] [(.ref a), (.int (2 : Int32))])) rfl rfl (hb hby d7_2)
 obtain ⟨cl2, Ar2, aq2, aS2, aN2, aH2, aG2⟩ := id V_di
 obtain ⟨T3, h3, k3, X3, e3, E3, A3, Ex3, st3⟩ := newPE X1 hx hZ (aty := .double) (tw0 hw) e1 (g := (mkF m 7 #[.val (.ref a), .unset, .unset] [(.int (2 : Int32))])) rfl (hb hby d7_7) rfl (by decide) (cap := 2) (by decide) (by decide) (by decide) (by decide) (ad := "[D") (by decide +kernel)
 obtain ⟨b3, g3⟩ : ∃ z, z = h0.size := ⟨_, rfl⟩
 rw [← g3] at A3 Ex3 st3
 have ne_a_b3 := own_ne E_a.lt g3
 have ne_di_b3 := own_ne V_di.lt g3
 have ne_dl_b3 := own_ne V_dl.lt g3
 have ne_dr_b3 := own_ne V_dr.lt g3
 have gn_b3 := own_le Z0 g3
 have sz_b3 := own_le KC0.1 g3
 replace E_a := E_a.ext E3
 replace F_lefts := F_lefts.ext E3
 replace F_rights := F_rights.ext E3
 replace V_dl := V_dl.ext E3
 replace V_dr := V_dr.ext E3
 have Zs4 := Nat.le_trans Z0 E3.1
 have KC4 := KC0.ext E3
 have V_b3 : Arv Z h3 b3 k3 .double (2 : Int32) [dZ, dZ] dZ := (Arv.newD A3 (by decide)).pad (pad_rep [] dZ 2)
 obtain ⟨cl5, Ar5, aq5, aS5, aN5, aH5, aG5⟩ := id V_b3
 obtain ⟨cq6, q6, q6'⟩ := E_a.cell
 obtain ⟨_, _, ⟨T6, L6, k6, n6⟩, -, X6, ⟨Lc6, hQ6, l6, y6, z6⟩, st6⟩ := X3.privateBack hx (y := M20) hown (mvT hZ (tw150 hw)) (mvT hZ (tw151 hw)) (mvT hZ (own_selp (y := M20) (by decide) (tw2 hw) (tw152 hw) (tw151 hw))) (Cond.privateMethod_at (mvP hZ (tw152 hw) (args := #[]))) (mvT hZ (tw153 hw)) (by decide) (backOf (W := 2) (rmRV0 l Z a0 hw [] a dl dl_k ((1 : Int32)) ([(dV xa1)]) xa1 h3 n0 Zs4 F_lefts V_dl (by decide) rfl) hZ (tw153 hw) (tw3 hw) (by decide) (by decide)) (g := (mkF m 22 #[.val (.ref a), .val (.ref b3), .val (.int (0 : Int32))] [(.int (0 : Int32)), (.ref a), (.int (0 : Int32)), (.ref b3)])) rfl (by rw [hml]; rfl) (Steps.refl _) (a := a) (by rw [e3]; exact q6) q6' (argsL := [(.int (0 : Int32))]) (rest := [(.int (0 : Int32)), (.ref b3)]) (lenOf pd__I_D rfl) rfl (own_mr rfl) (hb hby d7_22) (fun _ _ => ⟨rfl, e3, (by decide : 1 + 0 ≤ _), (by decide : 2 + 0 ≤ _)⟩)
 dsimp only [Pt.U, Pt.locs, Pt.cells, Pt.slots] at X6 l6 y6 z6 st6 hQ6
 rw [l6, y6, z6] at X6
 obtain ⟨rfl, N6q, hh6⟩ := hQ6
 have N6 := Fr.app N0 N6q
 obtain ⟨cl7, Ar7, aq7, aS7, aN7, aH7, aG7⟩ := id V_b3
 have hin8 : ¬ ((0 : Int32) < 0 ∨ cl7.slots.size ≤ ((0 : Int32)).toNatClampNeg) := inb_of aS7 ⟨by decide, by decide⟩
 obtain ⟨T8, h8, X8, e8, W8, st8⟩ := stD X6 hx hZ hh6 Ar7 (j := (0 : Int32)) hin8 (g := (mkF m 25 #[.val (.ref a), .val (.ref b3), .val (.int (0 : Int32))] [(dV xa1), (.int (0 : Int32)), (.ref b3)])) rfl rfl (hb hby d7_25)
 have N8 := Fr.snoc X8 N6 gn_b3
 have Vq8 : Arv Z h8 b3 k3 .double (2 : Int32) [(dV xa1), dZ] dZ := Arv.set Ar7 aq7 aS7 aN7 aH7 aG7 rfl W8 0 rfl (Nat.le_of_ble_eq_true rfl)
 replace E_a := E_a.wr W8
 replace F_rights := F_rights.other W8 (Or.inl ne_a_b3)
 replace V_dr := V_dr.other W8 ne_dr_b3
 have Zs9 := Nat.le_trans Zs4 (Keep.of_wr W8).1
 have KC9 := KC4.wr W8 (Or.inr sz_b3)
 obtain ⟨cl10, Ar10, aq10, aS10, aN10, aH10, aG10⟩ := id Vq8
 obtain ⟨cq11, q11, q11'⟩ := E_a.cell
 obtain ⟨_, _, ⟨T11, L11, k11, n11⟩, -, X11, ⟨Lc11, hQ11, l11, y11, z11⟩, st11⟩ := X8.privateBack hx (y := M20) hown (mvT hZ (tw150 hw)) (mvT hZ (tw151 hw)) (mvT hZ (own_selp (y := M20) (by decide) (tw2 hw) (tw152 hw) (tw151 hw))) (Cond.privateMethod_at (mvP hZ (tw152 hw) (args := #[]))) (mvT hZ (tw153 hw)) (by decide) (backOf (W := 2) (rmRV1 l Z a0 hw [] a dr dr_k ((1 : Int32)) ([(dV ya1)]) ya1 h8 n0 Zs9 F_rights V_dr (by decide) rfl) hZ (tw153 hw) (tw3 hw) (by decide) (by decide)) (g := (mkF m 22 #[.val (.ref a), .val (.ref b3), .val (.int (1 : Int32))] [(.int (1 : Int32)), (.ref a), (.int (1 : Int32)), (.ref b3)])) rfl (by rw [hml]; rfl) (Steps.refl _) (a := a) (by rw [e8]; exact q11) q11' (argsL := [(.int (1 : Int32))]) (rest := [(.int (1 : Int32)), (.ref b3)]) (lenOf pd__I_D rfl) rfl (own_mr rfl) (hb hby d7_22) (fun _ _ => ⟨rfl, e8, (by decide : 1 + 0 ≤ _), (by decide : 2 + 0 ≤ _)⟩)
 dsimp only [Pt.U, Pt.locs, Pt.cells, Pt.slots] at X11 l11 y11 z11 st11 hQ11
 rw [l11, y11, z11] at X11
 obtain ⟨rfl, N11q, hh11⟩ := hQ11
 have N11 := Fr.app N8 N11q
 obtain ⟨cl12, Ar12, aq12, aS12, aN12, aH12, aG12⟩ := id Vq8
 have hin13 : ¬ ((1 : Int32) < 0 ∨ cl12.slots.size ≤ ((1 : Int32)).toNatClampNeg) := inb_of aS12 ⟨by decide, by decide⟩
 obtain ⟨T13, h13, X13, e13, W13, st13⟩ := stD X11 hx hZ hh11 Ar12 (j := (1 : Int32)) hin13 (g := (mkF m 25 #[.val (.ref a), .val (.ref b3), .val (.int (1 : Int32))] [(dV ya1), (.int (1 : Int32)), (.ref b3)])) rfl rfl (hb hby d7_25)
 have N13 := Fr.snoc X13 N11 gn_b3
 have Vq13 : Arv Z h13 b3 k3 .double (2 : Int32) [(dV xa1), (dV ya1)] dZ := Arv.set Ar12 aq12 aS12 aN12 aH12 aG12 rfl W13 1 rfl (Nat.le_of_ble_eq_true rfl)
 have Zs14 := Nat.le_trans Zs9 (Keep.of_wr W13).1
 have KC14 := KC9.wr W13 (Or.inr sz_b3)
 obtain ⟨cl15, Ar15, aq15, aS15, aN15, aH15, aG15⟩ := id Vq13
 obtain ⟨fs, hr, hrun, hended, hW, hsame⟩ := X13.leave (v := some (.ref b3)) (fun h => by rw [Bd.returns] at h; cases h)
 refine ⟨_, _, pre0 _ ?_, hrun, hended, _, _, rfl, ?_, ⟨_, rfl⟩, hW, hsame.mono (by decide) (by decide)⟩
 ·skip
  refine XS.iconst X0.here hx rfl (hb hby d7_0) ?_
  refine XS.aloadN X0.here hx rfl (hb hby d7_1) rfl rfl ?_
  refine st1 _ ?_
  refine X1.arraylength hx (by rw [e1]; exact Ar2.1) (State.isArrayOf_alike hZ.alike Ar2.2.1) (g := (mkF m 5 #[.val (.ref a), .unset, .unset] [(.ref di), (.int (2 : Int32))])) rfl rfl (hb hby d7_5) _ ?_
  rw [len_of aS2 aN2]
  refine XS.imul X1.here hx rfl (hb hby d7_6) rfl ?_
  refine st3 _ ?_
  refine XS.astoreN X3.here hx rfl (hb hby d7_9) rfl rfl (l' := #[.val (.ref a), .val (.ref b3), .unset]) rfl ?_
  refine XS.iconst X3.here hx rfl (hb hby d7_10) ?_
  refine XS.istoreN X3.here hx rfl (hb hby d7_11) rfl (l' := #[.val (.ref a), .val (.ref b3), .val (.int (0 : Int32))]) rfl ?_
  refine XS.iloadN X3.here hx rfl (hb hby d7_12) rfl ?_
  refine XS.aloadN X3.here hx rfl (hb hby d7_13) rfl rfl ?_
  refine X3.arraylength hx (by rw [e3]; exact Ar5.1) (State.isArrayOf_alike hZ.alike Ar5.2.1) (g := (mkF m 14 #[.val (.ref a), .val (.ref b3), .val (.int (0 : Int32))] [(.ref b3), (.int (0 : Int32))])) rfl rfl (hb hby d7_14) _ ?_
  rw [len_of aS5 aN5]
  refine XS.icmpNo X3.here hx rfl (hb hby d7_15) rfl (XT.ii_ge_f (by decide)) ?_
  refine XS.aloadN X3.here hx rfl (hb hby d7_18) rfl rfl ?_
  refine XS.iloadN X3.here hx rfl (hb hby d7_19) rfl ?_
  refine XS.aloadN X3.here hx rfl (hb hby d7_20) rfl rfl ?_
  refine XS.iloadN X3.here hx rfl (hb hby d7_21) rfl ?_
  refine st6.trans ?_
  refine st8 _ ?_
  refine XS.iinc X8.here hx rfl (hb hby d7_26) rfl (l' := #[.val (.ref a), .val (.ref b3), .val (.int (1 : Int32))]) rfl ?_
  refine XS.goto X8.here hx rfl (pc0 := 29) (pc' := 12) rfl (hb hby d7_29) (by decide) (by decide) ?_
  refine XS.iloadN X8.here hx rfl (hb hby d7_12) rfl ?_
  refine XS.aloadN X8.here hx rfl (hb hby d7_13) rfl rfl ?_
  refine X8.arraylength hx (by rw [e8]; exact Ar10.1) (State.isArrayOf_alike hZ.alike Ar10.2.1) (g := (mkF m 14 #[.val (.ref a), .val (.ref b3), .val (.int (1 : Int32))] [(.ref b3), (.int (1 : Int32))])) rfl rfl (hb hby d7_14) _ ?_
  rw [len_of aS10 aN10]
  refine XS.icmpNo X8.here hx rfl (hb hby d7_15) rfl (XT.ii_ge_f (by decide)) ?_
  refine XS.aloadN X8.here hx rfl (hb hby d7_18) rfl rfl ?_
  refine XS.iloadN X8.here hx rfl (hb hby d7_19) rfl ?_
  refine XS.aloadN X8.here hx rfl (hb hby d7_20) rfl rfl ?_
  refine XS.iloadN X8.here hx rfl (hb hby d7_21) rfl ?_
  refine st11.trans ?_
  refine st13 _ ?_
  refine XS.iinc X13.here hx rfl (hb hby d7_26) rfl (l' := #[.val (.ref a), .val (.ref b3), .val (.int (2 : Int32))]) rfl ?_
  refine XS.goto X13.here hx rfl (pc0 := 29) (pc' := 12) rfl (hb hby d7_29) (by decide) (by decide) ?_
  refine XS.iloadN X13.here hx rfl (hb hby d7_12) rfl ?_
  refine XS.aloadN X13.here hx rfl (hb hby d7_13) rfl rfl ?_
  refine X13.arraylength hx (by rw [e13]; exact Ar15.1) (State.isArrayOf_alike hZ.alike Ar15.2.1) (g := (mkF m 14 #[.val (.ref a), .val (.ref b3), .val (.int (2 : Int32))] [(.ref b3), (.int (2 : Int32))])) rfl rfl (hb hby d7_14) _ ?_
  rw [len_of aS15 aN15]
  refine XS.icmpYes X13.here hx rfl (pc0 := 15) (pc' := 32) rfl (hb hby d7_15) rfl (XT.ii_ge_t (by decide)) (by decide) (by decide) ?_
  refine XS.aloadN X13.here hx rfl (hb hby d7_32) rfl rfl ?_
  exact retOut X13 hx Bd.returns rfl (Or.inr (Or.inr (Or.inr (Or.inr ⟨rfl, rfl, rfl⟩)))) (hb hby d7_33) hr
 ·show QLV1 Z a dl dl_k dr dr_k xa1 ya1 di di_k da1 h0 n0 _ T13.heap _
  rw [e13]
  exact ⟨b3, k3, rfl, N13, KC14, gn_b3, sz_b3, Vq13⟩
def QLV2 (Z : State) (a : Addr) (dl : Addr) (dl_k : ClassId) (dr : Addr) (dr_k : ClassId) (xa1 : Int64) (xa2 : Int64) (ya1 : Int64) (ya2 : Int64) (di : Addr) (di_k : ClassId) (da1 : Int64) (da2 : Int64) (h0 : Heap) (n0 : Nat) (v : Option Value) (h : Heap) (L : List Loc) : Prop := ∃ (b : Addr) (b_k : ClassId), v = some (.ref b) ∧ Fr n0 L ∧ Keep h0 h [] ∧ n0 ≤ b ∧ h0.size ≤ b ∧ Arv Z h b b_k .double (4 : Int32) [(dV xa1), (dV ya1), (dV xa2), (dV ya2)] dZ
set_option maxRecDepth 65536 in
set_option maxHeartbeats 40000000 in
theorem rmLV2 (l : Launch) (Z : State) (a0 : Array Value) (hw : HW a0 Z) (ws : List Jvm.Cond) (a : Addr) (dl : Addr) (dl_k : ClassId) (dr : Addr) (dr_k : ClassId) (xa1 : Int64) (xa2 : Int64) (ya1 : Int64) (ya2 : Int64) (di : Addr) (di_k : ClassId) (da1 : Int64) (da2 : Int64) (h0 : Heap) (n0 : Nat) (Z0 : n0 ≤ h0.size) (E_a : Exa Z h0 a cF) (F_instants : Fld Z h0 a cF "instants" "[D" (.ref di)) (V_di : Arv Z h0 di di_k .double (2 : Int32) [(dV da1), (dV da2)] dZ) (F_lefts : Fld Z h0 a cF "lefts" "[D" (.ref dl)) (F_rights : Fld Z h0 a cF "rights" "[D" (.ref dr)) (V_dl : Arv Z h0 dl dl_k .double (2 : Int32) [(dV xa1), (dV xa2)] dZ) (V_dr : Arv Z h0 dr dr_k .double (2 : Int32) [(dV ya1), (dV ya2)] dZ) :
    MetFree l M21 (head1 (Jvm.Cond.code M21 prog_37_method_10_code 3 (some (.array .double)) :: ws) R1_1_4_20) (fun ar UU => ar = #[(.ref a)] ∧ Z.Warmed39 UU.vm ∧ UU.heap = h0) (fun _ _ _ _ _ => True) (fun _ UU oo UU' => ∃ vv LL, oo = .returned vv ∧ QLV2 Z a dl dl_k dr dr_k xa1 xa2 ya1 ya2 di di_k da1 da2 h0 n0 vv UU'.heap LL ∧ FrameEnd UU oo UU' LL R1_1_4_20.cells R1_1_4_20.slots) := by
 refine MetFree.of_bodySF (plainFor_of_name pn_7) hisR ?_
 intro p e s m args below meth c s₁ Bd hml0 hP hK
 obtain ⟨rfl, hZ, hh⟩ := hP
 have hx := Bd.exec
 have hby := Bd.bytes
 have hml : c.maxLocals = 3 := hml0
 have hown : s.vm.findClass "com/example/narrow_bound/narrowbound/witness/CumulativeFunction" = some m.cls := findClass_of_methodNamed Bd.named
 have hnm := (name_of_methodNamed Bd.named Bd.method).1
 have X0 : Stand p l e R1_1_4_20 s m #[(.ref a)] below meth c s₁ [] 0 0 := Stand.of_body Bd
 have e0 : s₁.heap = h0 := by rw [← hh, Bd.state]; rfl
 have N0 := Fr.nil n0
 have KC0 : Keep h0 h0 [] := Keep.refl h0 []
 have pre0 : ∀ tgt, Steps p.tables e below (s₁.setTop (mkF m 0 #[.val (.ref a), .unset, .unset] [])) tgt → Steps p.tables e below (s₁.setTop (entryFrame m #[(.ref a)] 3)) tgt := fun tgt kk => castTop (ef7_R m (a)) kk
 generalize hI : s₁.setTop (entryFrame m #[(.ref a)] 3) = I0 at pre0 ⊢
 obtain ⟨T21, lo21, Hc21, b3, k3, X21, N21, e21, Zs21, KC21, E_a_c21, F_rights_c21, V_dr_c21, Vq18_c21, gnc21_0, szc21_0, nesc21_0, nesc21_3, pre21⟩ : ∃ (T21 : State) (lo21 : List Loc) (Hc21 : Heap) (b3 : Addr) (k3 : ClassId), Stand p l e R1_1_4_20 s m #[(.ref a)] below meth c T21 lo21 1 4 ∧ Fr n0 lo21 ∧ T21.heap = Hc21 ∧ n0 ≤ Hc21.size ∧ Keep h0 Hc21 [] ∧ Exa Z Hc21 a cF ∧ Fld Z Hc21 a cF "rights" "[D" (.ref dr) ∧ Arv Z Hc21 dr dr_k .double (2 : Int32) [(dV ya1), (dV ya2)] dZ ∧ Arv Z Hc21 b3 k3 .double (4 : Int32) [(dV xa1), (dV ya1), (dV xa2), dZ] dZ ∧ n0 ≤ b3 ∧ h0.size ≤ b3 ∧ a ≠ b3 ∧ dr ≠ b3 ∧ Pr p e below I0 T21 (mkF m 26 #[.val (.ref a), .val (.ref b3), .val (.int (2 : Int32))] []) := by
  obtain ⟨T1, X1, e1, st1⟩ := getF X0 hx hZ hown (host := "") (Or.inl (tw58 hw)) Via.refl e0 F_instants (g := (mkF m 2 #[.val (.ref a), .unset, .unset] [(.ref a), (.int (2 : Int32))])) rfl rfl (hb hby d7_2)
  obtain ⟨cl2, Ar2, aq2, aS2, aN2, aH2, aG2⟩ := id V_di
  obtain ⟨T3, h3, k3, X3, e3, E3, A3, Ex3, st3⟩ := newPE X1 hx hZ (aty := .double) (tw0 hw) e1 (g := (mkF m 7 #[.val (.ref a), .unset, .unset] [(.int (4 : Int32))])) rfl (hb hby d7_7) rfl (by decide) (cap := 4) (by decide) (by decide) (by decide) (by decide) (ad := "[D") (by decide +kernel)
  obtain ⟨b3, g3⟩ : ∃ z, z = h0.size := ⟨_, rfl⟩
  rw [← g3] at A3 Ex3 st3
  have ne_a_b3 := own_ne E_a.lt g3
  have ne_di_b3 := own_ne V_di.lt g3
  have ne_dl_b3 := own_ne V_dl.lt g3
  have ne_dr_b3 := own_ne V_dr.lt g3
  have gn_b3 := own_le Z0 g3
  have sz_b3 := own_le KC0.1 g3
  replace E_a := E_a.ext E3
  replace F_lefts := F_lefts.ext E3
  replace F_rights := F_rights.ext E3
  replace V_dl := V_dl.ext E3
  replace V_dr := V_dr.ext E3
  have Zs4 := Nat.le_trans Z0 E3.1
  have KC4 := KC0.ext E3
  have V_b3 : Arv Z h3 b3 k3 .double (4 : Int32) [dZ, dZ, dZ, dZ] dZ := (Arv.newD A3 (by decide)).pad (pad_rep [] dZ 4)
  obtain ⟨cl5, Ar5, aq5, aS5, aN5, aH5, aG5⟩ := id V_b3
  obtain ⟨cq6, q6, q6'⟩ := E_a.cell
  obtain ⟨_, _, ⟨T6, L6, k6, n6⟩, -, X6, ⟨Lc6, hQ6, l6, y6, z6⟩, st6⟩ := X3.privateBack hx (y := M20) hown (mvT hZ (tw150 hw)) (mvT hZ (tw151 hw)) (mvT hZ (own_selp (y := M20) (by decide) (tw2 hw) (tw152 hw) (tw151 hw))) (Cond.privateMethod_at (mvP hZ (tw152 hw) (args := #[]))) (mvT hZ (tw153 hw)) (by decide) (backOf (W := 2) (rmRV0 l Z a0 hw [] a dl dl_k ((2 : Int32)) ([(dV xa1), (dV xa2)]) xa1 h3 n0 Zs4 F_lefts V_dl (by decide) rfl) hZ (tw153 hw) (tw3 hw) (by decide) (by decide)) (g := (mkF m 22 #[.val (.ref a), .val (.ref b3), .val (.int (0 : Int32))] [(.int (0 : Int32)), (.ref a), (.int (0 : Int32)), (.ref b3)])) rfl (by rw [hml]; rfl) (Steps.refl _) (a := a) (by rw [e3]; exact q6) q6' (argsL := [(.int (0 : Int32))]) (rest := [(.int (0 : Int32)), (.ref b3)]) (lenOf pd__I_D rfl) rfl (own_mr rfl) (hb hby d7_22) (fun _ _ => ⟨rfl, e3, (by decide : 1 + 0 ≤ _), (by decide : 4 + 0 ≤ _)⟩)
  dsimp only [Pt.U, Pt.locs, Pt.cells, Pt.slots] at X6 l6 y6 z6 st6 hQ6
  rw [l6, y6, z6] at X6
  obtain ⟨rfl, N6q, hh6⟩ := hQ6
  have N6 := Fr.app N0 N6q
  obtain ⟨cl7, Ar7, aq7, aS7, aN7, aH7, aG7⟩ := id V_b3
  have hin8 : ¬ ((0 : Int32) < 0 ∨ cl7.slots.size ≤ ((0 : Int32)).toNatClampNeg) := inb_of aS7 ⟨by decide, by decide⟩
  obtain ⟨T8, h8, X8, e8, W8, st8⟩ := stD X6 hx hZ hh6 Ar7 (j := (0 : Int32)) hin8 (g := (mkF m 25 #[.val (.ref a), .val (.ref b3), .val (.int (0 : Int32))] [(dV xa1), (.int (0 : Int32)), (.ref b3)])) rfl rfl (hb hby d7_25)
  have N8 := Fr.snoc X8 N6 gn_b3
  have Vq8 : Arv Z h8 b3 k3 .double (4 : Int32) [(dV xa1), dZ, dZ, dZ] dZ := Arv.set Ar7 aq7 aS7 aN7 aH7 aG7 rfl W8 0 rfl (Nat.le_of_ble_eq_true rfl)
  replace E_a := E_a.wr W8
  replace F_lefts := F_lefts.other W8 (Or.inl ne_a_b3)
  replace F_rights := F_rights.other W8 (Or.inl ne_a_b3)
  replace V_dl := V_dl.other W8 ne_dl_b3
  replace V_dr := V_dr.other W8 ne_dr_b3
  have Zs9 := Nat.le_trans Zs4 (Keep.of_wr W8).1
  have KC9 := KC4.wr W8 (Or.inr sz_b3)
  obtain ⟨cl10, Ar10, aq10, aS10, aN10, aH10, aG10⟩ := id Vq8
  obtain ⟨cq11, q11, q11'⟩ := E_a.cell
  obtain ⟨_, _, ⟨T11, L11, k11, n11⟩, -, X11, ⟨Lc11, hQ11, l11, y11, z11⟩, st11⟩ := X8.privateBack hx (y := M20) hown (mvT hZ (tw150 hw)) (mvT hZ (tw151 hw)) (mvT hZ (own_selp (y := M20) (by decide) (tw2 hw) (tw152 hw) (tw151 hw))) (Cond.privateMethod_at (mvP hZ (tw152 hw) (args := #[]))) (mvT hZ (tw153 hw)) (by decide) (backOf (W := 2) (rmRV1 l Z a0 hw [] a dr dr_k ((2 : Int32)) ([(dV ya1), (dV ya2)]) ya1 h8 n0 Zs9 F_rights V_dr (by decide) rfl) hZ (tw153 hw) (tw3 hw) (by decide) (by decide)) (g := (mkF m 22 #[.val (.ref a), .val (.ref b3), .val (.int (1 : Int32))] [(.int (1 : Int32)), (.ref a), (.int (1 : Int32)), (.ref b3)])) rfl (by rw [hml]; rfl) (Steps.refl _) (a := a) (by rw [e8]; exact q11) q11' (argsL := [(.int (1 : Int32))]) (rest := [(.int (1 : Int32)), (.ref b3)]) (lenOf pd__I_D rfl) rfl (own_mr rfl) (hb hby d7_22) (fun _ _ => ⟨rfl, e8, (by decide : 1 + 0 ≤ _), (by decide : 4 + 0 ≤ _)⟩)
  dsimp only [Pt.U, Pt.locs, Pt.cells, Pt.slots] at X11 l11 y11 z11 st11 hQ11
  rw [l11, y11, z11] at X11
  obtain ⟨rfl, N11q, hh11⟩ := hQ11
  have N11 := Fr.app N8 N11q
  obtain ⟨cl12, Ar12, aq12, aS12, aN12, aH12, aG12⟩ := id Vq8
  have hin13 : ¬ ((1 : Int32) < 0 ∨ cl12.slots.size ≤ ((1 : Int32)).toNatClampNeg) := inb_of aS12 ⟨by decide, by decide⟩
  obtain ⟨T13, h13, X13, e13, W13, st13⟩ := stD X11 hx hZ hh11 Ar12 (j := (1 : Int32)) hin13 (g := (mkF m 25 #[.val (.ref a), .val (.ref b3), .val (.int (1 : Int32))] [(dV ya1), (.int (1 : Int32)), (.ref b3)])) rfl rfl (hb hby d7_25)
  have N13 := Fr.snoc X13 N11 gn_b3
  have Vq13 : Arv Z h13 b3 k3 .double (4 : Int32) [(dV xa1), (dV ya1), dZ, dZ] dZ := Arv.set Ar12 aq12 aS12 aN12 aH12 aG12 rfl W13 1 rfl (Nat.le_of_ble_eq_true rfl)
  replace E_a := E_a.wr W13
  replace F_lefts := F_lefts.other W13 (Or.inl ne_a_b3)
  replace F_rights := F_rights.other W13 (Or.inl ne_a_b3)
  replace V_dl := V_dl.other W13 ne_dl_b3
  replace V_dr := V_dr.other W13 ne_dr_b3
  have Zs14 := Nat.le_trans Zs9 (Keep.of_wr W13).1
  have KC14 := KC9.wr W13 (Or.inr sz_b3)
  obtain ⟨cl15, Ar15, aq15, aS15, aN15, aH15, aG15⟩ := id Vq13
  obtain ⟨cq16, q16, q16'⟩ := E_a.cell
  obtain ⟨_, _, ⟨T16, L16, k16, n16⟩, -, X16, ⟨Lc16, hQ16, l16, y16, z16⟩, st16⟩ := X13.privateBack hx (y := M20) hown (mvT hZ (tw150 hw)) (mvT hZ (tw151 hw)) (mvT hZ (own_selp (y := M20) (by decide) (tw2 hw) (tw152 hw) (tw151 hw))) (Cond.privateMethod_at (mvP hZ (tw152 hw) (args := #[]))) (mvT hZ (tw153 hw)) (by decide) (backOf (W := 2) (rmRV2 l Z a0 hw [] a dl dl_k ((2 : Int32)) ([(dV xa1), (dV xa2)]) xa2 h13 n0 Zs14 F_lefts V_dl (by decide) rfl) hZ (tw153 hw) (tw3 hw) (by decide) (by decide)) (g := (mkF m 22 #[.val (.ref a), .val (.ref b3), .val (.int (2 : Int32))] [(.int (2 : Int32)), (.ref a), (.int (2 : Int32)), (.ref b3)])) rfl (by rw [hml]; rfl) (Steps.refl _) (a := a) (by rw [e13]; exact q16) q16' (argsL := [(.int (2 : Int32))]) (rest := [(.int (2 : Int32)), (.ref b3)]) (lenOf pd__I_D rfl) rfl (own_mr rfl) (hb hby d7_22) (fun _ _ => ⟨rfl, e13, (by decide : 1 + 0 ≤ _), (by decide : 4 + 0 ≤ _)⟩)
  dsimp only [Pt.U, Pt.locs, Pt.cells, Pt.slots] at X16 l16 y16 z16 st16 hQ16
  rw [l16, y16, z16] at X16
  obtain ⟨rfl, N16q, hh16⟩ := hQ16
  have N16 := Fr.app N13 N16q
  obtain ⟨cl17, Ar17, aq17, aS17, aN17, aH17, aG17⟩ := id Vq13
  have hin18 : ¬ ((2 : Int32) < 0 ∨ cl17.slots.size ≤ ((2 : Int32)).toNatClampNeg) := inb_of aS17 ⟨by decide, by decide⟩
  obtain ⟨T18, h18, X18, e18, W18, st18⟩ := stD X16 hx hZ hh16 Ar17 (j := (2 : Int32)) hin18 (g := (mkF m 25 #[.val (.ref a), .val (.ref b3), .val (.int (2 : Int32))] [(dV xa2), (.int (2 : Int32)), (.ref b3)])) rfl rfl (hb hby d7_25)
  have N18 := Fr.snoc X18 N16 gn_b3
  have Vq18 : Arv Z h18 b3 k3 .double (4 : Int32) [(dV xa1), (dV ya1), (dV xa2), dZ] dZ := Arv.set Ar17 aq17 aS17 aN17 aH17 aG17 rfl W18 2 rfl (Nat.le_of_ble_eq_true rfl)
  replace E_a := E_a.wr W18
  replace F_rights := F_rights.other W18 (Or.inl ne_a_b3)
  replace V_dr := V_dr.other W18 ne_dr_b3
  have Zs19 := Nat.le_trans Zs14 (Keep.of_wr W18).1
  have KC19 := KC14.wr W18 (Or.inr sz_b3)
  have pre20 : Pr p e below I0 T18 (mkF m 26 #[.val (.ref a), .val (.ref b3), .val (.int (2 : Int32))] []) := by
   intro tg kk
   refine pre0 tg ?_
   refine XS.iconst X0.here hx rfl (hb hby d7_0) ?_
   refine XS.aloadN X0.here hx rfl (hb hby d7_1) rfl rfl ?_
   refine st1 _ ?_
   refine X1.arraylength hx (by rw [e1]; exact Ar2.1) (State.isArrayOf_alike hZ.alike Ar2.2.1) (g := (mkF m 5 #[.val (.ref a), .unset, .unset] [(.ref di), (.int (2 : Int32))])) rfl rfl (hb hby d7_5) _ ?_
   rw [len_of aS2 aN2]
   refine XS.imul X1.here hx rfl (hb hby d7_6) rfl ?_
   refine st3 _ ?_
   refine XS.astoreN X3.here hx rfl (hb hby d7_9) rfl rfl (l' := #[.val (.ref a), .val (.ref b3), .unset]) rfl ?_
   refine XS.iconst X3.here hx rfl (hb hby d7_10) ?_
   refine XS.istoreN X3.here hx rfl (hb hby d7_11) rfl (l' := #[.val (.ref a), .val (.ref b3), .val (.int (0 : Int32))]) rfl ?_
   refine XS.iloadN X3.here hx rfl (hb hby d7_12) rfl ?_
   refine XS.aloadN X3.here hx rfl (hb hby d7_13) rfl rfl ?_
   refine X3.arraylength hx (by rw [e3]; exact Ar5.1) (State.isArrayOf_alike hZ.alike Ar5.2.1) (g := (mkF m 14 #[.val (.ref a), .val (.ref b3), .val (.int (0 : Int32))] [(.ref b3), (.int (0 : Int32))])) rfl rfl (hb hby d7_14) _ ?_
   rw [len_of aS5 aN5]
   refine XS.icmpNo X3.here hx rfl (hb hby d7_15) rfl (XT.ii_ge_f (by decide)) ?_
   refine XS.aloadN X3.here hx rfl (hb hby d7_18) rfl rfl ?_
   refine XS.iloadN X3.here hx rfl (hb hby d7_19) rfl ?_
   refine XS.aloadN X3.here hx rfl (hb hby d7_20) rfl rfl ?_
   refine XS.iloadN X3.here hx rfl (hb hby d7_21) rfl ?_
   refine st6.trans ?_
   refine st8 _ ?_
   refine XS.iinc X8.here hx rfl (hb hby d7_26) rfl (l' := #[.val (.ref a), .val (.ref b3), .val (.int (1 : Int32))]) rfl ?_
   refine XS.goto X8.here hx rfl (pc0 := 29) (pc' := 12) rfl (hb hby d7_29) (by decide) (by decide) ?_
   refine XS.iloadN X8.here hx rfl (hb hby d7_12) rfl ?_
   refine XS.aloadN X8.here hx rfl (hb hby d7_13) rfl rfl ?_
   refine X8.arraylength hx (by rw [e8]; exact Ar10.1) (State.isArrayOf_alike hZ.alike Ar10.2.1) (g := (mkF m 14 #[.val (.ref a), .val (.ref b3), .val (.int (1 : Int32))] [(.ref b3), (.int (1 : Int32))])) rfl rfl (hb hby d7_14) _ ?_
   rw [len_of aS10 aN10]
   refine XS.icmpNo X8.here hx rfl (hb hby d7_15) rfl (XT.ii_ge_f (by decide)) ?_
   refine XS.aloadN X8.here hx rfl (hb hby d7_18) rfl rfl ?_
   refine XS.iloadN X8.here hx rfl (hb hby d7_19) rfl ?_
   refine XS.aloadN X8.here hx rfl (hb hby d7_20) rfl rfl ?_
   refine XS.iloadN X8.here hx rfl (hb hby d7_21) rfl ?_
   refine st11.trans ?_
   refine st13 _ ?_
   refine XS.iinc X13.here hx rfl (hb hby d7_26) rfl (l' := #[.val (.ref a), .val (.ref b3), .val (.int (2 : Int32))]) rfl ?_
   refine XS.goto X13.here hx rfl (pc0 := 29) (pc' := 12) rfl (hb hby d7_29) (by decide) (by decide) ?_
   refine XS.iloadN X13.here hx rfl (hb hby d7_12) rfl ?_
   refine XS.aloadN X13.here hx rfl (hb hby d7_13) rfl rfl ?_
   refine X13.arraylength hx (by rw [e13]; exact Ar15.1) (State.isArrayOf_alike hZ.alike Ar15.2.1) (g := (mkF m 14 #[.val (.ref a), .val (.ref b3), .val (.int (2 : Int32))] [(.ref b3), (.int (2 : Int32))])) rfl rfl (hb hby d7_14) _ ?_
   rw [len_of aS15 aN15]
   refine XS.icmpNo X13.here hx rfl (hb hby d7_15) rfl (XT.ii_ge_f (by decide)) ?_
   refine XS.aloadN X13.here hx rfl (hb hby d7_18) rfl rfl ?_
   refine XS.iloadN X13.here hx rfl (hb hby d7_19) rfl ?_
   refine XS.aloadN X13.here hx rfl (hb hby d7_20) rfl rfl ?_
   refine XS.iloadN X13.here hx rfl (hb hby d7_21) rfl ?_
   refine st16.trans ?_
   refine st18 _ ?_
   exact kk
  exact ⟨T18, _, h18, b3, k3, X18, N18, e18, Zs19, KC19, E_a, F_rights, V_dr, Vq18, gn_b3, sz_b3, ne_a_b3, ne_dr_b3, pre20⟩
 clear pre0 X0 N0 e0 KC0 Z0 E_a F_instants V_di F_lefts F_rights V_dl V_dr
 obtain ⟨cl22, Ar22, aq22, aS22, aN22, aH22, aG22⟩ := id Vq18_c21
 obtain ⟨cq23, q23, q23'⟩ := E_a_c21.cell
 obtain ⟨_, _, ⟨T23, L23, k23, n23⟩, -, X23, ⟨Lc23, hQ23, l23, y23, z23⟩, st23⟩ := X21.privateBack hx (y := M20) hown (mvT hZ (tw150 hw)) (mvT hZ (tw151 hw)) (mvT hZ (own_selp (y := M20) (by decide) (tw2 hw) (tw152 hw) (tw151 hw))) (Cond.privateMethod_at (mvP hZ (tw152 hw) (args := #[]))) (mvT hZ (tw153 hw)) (by decide) (backOf (W := 2) (rmRV3 l Z a0 hw [] a dr dr_k ((2 : Int32)) ([(dV ya1), (dV ya2)]) ya2 Hc21 n0 Zs21 F_rights_c21 V_dr_c21 (by decide) rfl) hZ (tw153 hw) (tw3 hw) (by decide) (by decide)) (g := (mkF m 22 #[.val (.ref a), .val (.ref b3), .val (.int (3 : Int32))] [(.int (3 : Int32)), (.ref a), (.int (3 : Int32)), (.ref b3)])) rfl (by rw [hml]; rfl) (Steps.refl _) (a := a) (by rw [e21]; exact q23) q23' (argsL := [(.int (3 : Int32))]) (rest := [(.int (3 : Int32)), (.ref b3)]) (lenOf pd__I_D rfl) rfl (own_mr rfl) (hb hby d7_22) (fun _ _ => ⟨rfl, e21, (by decide : 1 + 0 ≤ _), (by decide : 4 + 0 ≤ _)⟩)
 dsimp only [Pt.U, Pt.locs, Pt.cells, Pt.slots] at X23 l23 y23 z23 st23 hQ23
 rw [l23, y23, z23] at X23
 obtain ⟨rfl, N23q, hh23⟩ := hQ23
 have N23 := Fr.app N21 N23q
 obtain ⟨cl24, Ar24, aq24, aS24, aN24, aH24, aG24⟩ := id Vq18_c21
 have hin25 : ¬ ((3 : Int32) < 0 ∨ cl24.slots.size ≤ ((3 : Int32)).toNatClampNeg) := inb_of aS24 ⟨by decide, by decide⟩
 obtain ⟨T25, h25, X25, e25, W25, st25⟩ := stD X23 hx hZ hh23 Ar24 (j := (3 : Int32)) hin25 (g := (mkF m 25 #[.val (.ref a), .val (.ref b3), .val (.int (3 : Int32))] [(dV ya2), (.int (3 : Int32)), (.ref b3)])) rfl rfl (hb hby d7_25)
 have N25 := Fr.snoc X25 N23 gnc21_0
 have Vq25 : Arv Z h25 b3 k3 .double (4 : Int32) [(dV xa1), (dV ya1), (dV xa2), (dV ya2)] dZ := Arv.set Ar24 aq24 aS24 aN24 aH24 aG24 rfl W25 3 rfl (Nat.le_of_ble_eq_true rfl)
 have Zs26 := Nat.le_trans Zs21 (Keep.of_wr W25).1
 have KC26 := KC21.wr W25 (Or.inr szc21_0)
 obtain ⟨cl27, Ar27, aq27, aS27, aN27, aH27, aG27⟩ := id Vq25
 obtain ⟨fs, hr, hrun, hended, hW, hsame⟩ := X25.leave (v := some (.ref b3)) (fun h => by rw [Bd.returns] at h; cases h)
 refine ⟨_, _, pre21 _ ?_, hrun, hended, _, _, rfl, ?_, ⟨_, rfl⟩, hW, hsame.mono (by decide) (by decide)⟩
 ·skip
  refine XS.iinc X21.here hx rfl (hb hby d7_26) rfl (l' := #[.val (.ref a), .val (.ref b3), .val (.int (3 : Int32))]) rfl ?_
  refine XS.goto X21.here hx rfl (pc0 := 29) (pc' := 12) rfl (hb hby d7_29) (by decide) (by decide) ?_
  refine XS.iloadN X21.here hx rfl (hb hby d7_12) rfl ?_
  refine XS.aloadN X21.here hx rfl (hb hby d7_13) rfl rfl ?_
  refine X21.arraylength hx (by rw [e21]; exact Ar22.1) (State.isArrayOf_alike hZ.alike Ar22.2.1) (g := (mkF m 14 #[.val (.ref a), .val (.ref b3), .val (.int (3 : Int32))] [(.ref b3), (.int (3 : Int32))])) rfl rfl (hb hby d7_14) _ ?_
  rw [len_of aS22 aN22]
  refine XS.icmpNo X21.here hx rfl (hb hby d7_15) rfl (XT.ii_ge_f (by decide)) ?_
  refine XS.aloadN X21.here hx rfl (hb hby d7_18) rfl rfl ?_
  refine XS.iloadN X21.here hx rfl (hb hby d7_19) rfl ?_
  refine XS.aloadN X21.here hx rfl (hb hby d7_20) rfl rfl ?_
  refine XS.iloadN X21.here hx rfl (hb hby d7_21) rfl ?_
  refine st23.trans ?_
  refine st25 _ ?_
  refine XS.iinc X25.here hx rfl (hb hby d7_26) rfl (l' := #[.val (.ref a), .val (.ref b3), .val (.int (4 : Int32))]) rfl ?_
  refine XS.goto X25.here hx rfl (pc0 := 29) (pc' := 12) rfl (hb hby d7_29) (by decide) (by decide) ?_
  refine XS.iloadN X25.here hx rfl (hb hby d7_12) rfl ?_
  refine XS.aloadN X25.here hx rfl (hb hby d7_13) rfl rfl ?_
  refine X25.arraylength hx (by rw [e25]; exact Ar27.1) (State.isArrayOf_alike hZ.alike Ar27.2.1) (g := (mkF m 14 #[.val (.ref a), .val (.ref b3), .val (.int (4 : Int32))] [(.ref b3), (.int (4 : Int32))])) rfl rfl (hb hby d7_14) _ ?_
  rw [len_of aS27 aN27]
  refine XS.icmpYes X25.here hx rfl (pc0 := 15) (pc' := 32) rfl (hb hby d7_15) rfl (XT.ii_ge_t (by decide)) (by decide) (by decide) ?_
  refine XS.aloadN X25.here hx rfl (hb hby d7_32) rfl rfl ?_
  exact retOut X25 hx Bd.returns rfl (Or.inr (Or.inr (Or.inr (Or.inr ⟨rfl, rfl, rfl⟩)))) (hb hby d7_33) hr
 ·show QLV2 Z a dl dl_k dr dr_k xa1 xa2 ya1 ya2 di di_k da1 da2 h0 n0 _ T25.heap _
  rw [e25]
  exact ⟨b3, k3, rfl, N25, KC26, gnc21_0, szc21_0, Vq25⟩
def QLV3 (Z : State) (a : Addr) (dl : Addr) (dl_k : ClassId) (dr : Addr) (dr_k : ClassId) (xa1 : Int64) (xa2 : Int64) (xa3 : Int64) (ya1 : Int64) (ya2 : Int64) (ya3 : Int64) (di : Addr) (di_k : ClassId) (da1 : Int64) (da2 : Int64) (da3 : Int64) (h0 : Heap) (n0 : Nat) (v : Option Value) (h : Heap) (L : List Loc) : Prop := ∃ (b : Addr) (b_k : ClassId), v = some (.ref b) ∧ Fr n0 L ∧ Keep h0 h [] ∧ n0 ≤ b ∧ h0.size ≤ b ∧ Arv Z h b b_k .double (6 : Int32) [(dV xa1), (dV ya1), (dV xa2), (dV ya2), (dV xa3), (dV ya3)] dZ
set_option maxRecDepth 65536 in
set_option maxHeartbeats 40000000 in
theorem rmLV3 (l : Launch) (Z : State) (a0 : Array Value) (hw : HW a0 Z) (ws : List Jvm.Cond) (a : Addr) (dl : Addr) (dl_k : ClassId) (dr : Addr) (dr_k : ClassId) (xa1 : Int64) (xa2 : Int64) (xa3 : Int64) (ya1 : Int64) (ya2 : Int64) (ya3 : Int64) (di : Addr) (di_k : ClassId) (da1 : Int64) (da2 : Int64) (da3 : Int64) (h0 : Heap) (n0 : Nat) (Z0 : n0 ≤ h0.size) (E_a : Exa Z h0 a cF) (F_instants : Fld Z h0 a cF "instants" "[D" (.ref di)) (V_di : Arv Z h0 di di_k .double (3 : Int32) [(dV da1), (dV da2), (dV da3)] dZ) (F_lefts : Fld Z h0 a cF "lefts" "[D" (.ref dl)) (F_rights : Fld Z h0 a cF "rights" "[D" (.ref dr)) (V_dl : Arv Z h0 dl dl_k .double (3 : Int32) [(dV xa1), (dV xa2), (dV xa3)] dZ) (V_dr : Arv Z h0 dr dr_k .double (3 : Int32) [(dV ya1), (dV ya2), (dV ya3)] dZ) :
    MetFree l M21 (head1 (Jvm.Cond.code M21 prog_37_method_10_code 3 (some (.array .double)) :: ws) R1_1_6_20) (fun ar UU => ar = #[(.ref a)] ∧ Z.Warmed39 UU.vm ∧ UU.heap = h0) (fun _ _ _ _ _ => True) (fun _ UU oo UU' => ∃ vv LL, oo = .returned vv ∧ QLV3 Z a dl dl_k dr dr_k xa1 xa2 xa3 ya1 ya2 ya3 di di_k da1 da2 da3 h0 n0 vv UU'.heap LL ∧ FrameEnd UU oo UU' LL R1_1_6_20.cells R1_1_6_20.slots) := by
 refine MetFree.of_bodySF (plainFor_of_name pn_7) hisR ?_
 intro p e s m args below meth c s₁ Bd hml0 hP hK
 obtain ⟨rfl, hZ, hh⟩ := hP
 have hx := Bd.exec
 have hby := Bd.bytes
 have hml : c.maxLocals = 3 := hml0
 have hown : s.vm.findClass "com/example/narrow_bound/narrowbound/witness/CumulativeFunction" = some m.cls := findClass_of_methodNamed Bd.named
 have hnm := (name_of_methodNamed Bd.named Bd.method).1
 have X0 : Stand p l e R1_1_6_20 s m #[(.ref a)] below meth c s₁ [] 0 0 := Stand.of_body Bd
 have e0 : s₁.heap = h0 := by rw [← hh, Bd.state]; rfl
 have N0 := Fr.nil n0
 have KC0 : Keep h0 h0 [] := Keep.refl h0 []
 have pre0 : ∀ tgt, Steps p.tables e below (s₁.setTop (mkF m 0 #[.val (.ref a), .unset, .unset] [])) tgt → Steps p.tables e below (s₁.setTop (entryFrame m #[(.ref a)] 3)) tgt := fun tgt kk => castTop (ef7_R m (a)) kk
 generalize hI : s₁.setTop (entryFrame m #[(.ref a)] 3) = I0 at pre0 ⊢
 obtain ⟨T21, lo21, Hc21, b3, k3, X21, N21, e21, Zs21, KC21, E_a_c21, F_lefts_c21, F_rights_c21, V_dl_c21, V_dr_c21, Vq18_c21, gnc21_0, szc21_0, nesc21_0, nesc21_2, nesc21_3, pre21⟩ : ∃ (T21 : State) (lo21 : List Loc) (Hc21 : Heap) (b3 : Addr) (k3 : ClassId), Stand p l e R1_1_6_20 s m #[(.ref a)] below meth c T21 lo21 1 6 ∧ Fr n0 lo21 ∧ T21.heap = Hc21 ∧ n0 ≤ Hc21.size ∧ Keep h0 Hc21 [] ∧ Exa Z Hc21 a cF ∧ Fld Z Hc21 a cF "lefts" "[D" (.ref dl) ∧ Fld Z Hc21 a cF "rights" "[D" (.ref dr) ∧ Arv Z Hc21 dl dl_k .double (3 : Int32) [(dV xa1), (dV xa2), (dV xa3)] dZ ∧ Arv Z Hc21 dr dr_k .double (3 : Int32) [(dV ya1), (dV ya2), (dV ya3)] dZ ∧ Arv Z Hc21 b3 k3 .double (6 : Int32) [(dV xa1), (dV ya1), (dV xa2), dZ, dZ, dZ] dZ ∧ n0 ≤ b3 ∧ h0.size ≤ b3 ∧ a ≠ b3 ∧ dl ≠ b3 ∧ dr ≠ b3 ∧ Pr p e below I0 T21 (mkF m 26 #[.val (.ref a), .val (.ref b3), .val (.int (2 : Int32))] []) := by
  obtain ⟨T1, X1, e1, st1⟩ := getF X0 hx hZ hown (host := "") (Or.inl (tw58 hw)) Via.refl e0 F_instants (g := (mkF m 2 #[.val (.ref a), .unset, .unset] [(.ref a), (.int (2 : Int32))])) rfl rfl (hb hby d7_2)
  obtain ⟨cl2, Ar2, aq2, aS2, aN2, aH2, aG2⟩ := id V_di
  obtain ⟨T3, h3, k3, X3, e3, E3, A3, Ex3, st3⟩ := newPE X1 hx hZ (aty := .double) (tw0 hw) e1 (g := (mkF m 7 #[.val (.ref a), .unset, .unset] [(.int (6 : Int32))])) rfl (hb hby d7_7) rfl (by decide) (cap := 6) (by decide) (by decide) (by decide) (by decide) (ad := "[D") (by decide +kernel)
  obtain ⟨b3, g3⟩ : ∃ z, z = h0.size := ⟨_, rfl⟩
  rw [← g3] at A3 Ex3 st3
  have ne_a_b3 := own_ne E_a.lt g3
  have ne_di_b3 := own_ne V_di.lt g3
  have ne_dl_b3 := own_ne V_dl.lt g3
  have ne_dr_b3 := own_ne V_dr.lt g3
  have gn_b3 := own_le Z0 g3
  have sz_b3 := own_le KC0.1 g3
  replace E_a := E_a.ext E3
  replace F_lefts := F_lefts.ext E3
  replace F_rights := F_rights.ext E3
  replace V_dl := V_dl.ext E3
  replace V_dr := V_dr.ext E3
  have Zs4 := Nat.le_trans Z0 E3.1
  have KC4 := KC0.ext E3
  have V_b3 : Arv Z h3 b3 k3 .double (6 : Int32) [dZ, dZ, dZ, dZ, dZ, dZ] dZ := (Arv.newD A3 (by decide)).pad (pad_rep [] dZ 6)
  obtain ⟨cl5, Ar5, aq5, aS5, aN5, aH5, aG5⟩ := id V_b3
  obtain ⟨cq6, q6, q6'⟩ := E_a.cell
  obtain ⟨_, _, ⟨T6, L6, k6, n6⟩, -, X6, ⟨Lc6, hQ6, l6, y6, z6⟩, st6⟩ := X3.privateBack hx (y := M20) hown (mvT hZ (tw150 hw)) (mvT hZ (tw151 hw)) (mvT hZ (own_selp (y := M20) (by decide) (tw2 hw) (tw152 hw) (tw151 hw))) (Cond.privateMethod_at (mvP hZ (tw152 hw) (args := #[]))) (mvT hZ (tw153 hw)) (by decide) (backOf (W := 2) (rmRV0 l Z a0 hw [] a dl dl_k ((3 : Int32)) ([(dV xa1), (dV xa2), (dV xa3)]) xa1 h3 n0 Zs4 F_lefts V_dl (by decide) rfl) hZ (tw153 hw) (tw3 hw) (by decide) (by decide)) (g := (mkF m 22 #[.val (.ref a), .val (.ref b3), .val (.int (0 : Int32))] [(.int (0 : Int32)), (.ref a), (.int (0 : Int32)), (.ref b3)])) rfl (by rw [hml]; rfl) (Steps.refl _) (a := a) (by rw [e3]; exact q6) q6' (argsL := [(.int (0 : Int32))]) (rest := [(.int (0 : Int32)), (.ref b3)]) (lenOf pd__I_D rfl) rfl (own_mr rfl) (hb hby d7_22) (fun _ _ => ⟨rfl, e3, (by decide : 1 + 0 ≤ _), (by decide : 6 + 0 ≤ _)⟩)
  dsimp only [Pt.U, Pt.locs, Pt.cells, Pt.slots] at X6 l6 y6 z6 st6 hQ6
  rw [l6, y6, z6] at X6
  obtain ⟨rfl, N6q, hh6⟩ := hQ6
  have N6 := Fr.app N0 N6q
  obtain ⟨cl7, Ar7, aq7, aS7, aN7, aH7, aG7⟩ := id V_b3
  have hin8 : ¬ ((0 : Int32) < 0 ∨ cl7.slots.size ≤ ((0 : Int32)).toNatClampNeg) := inb_of aS7 ⟨by decide, by decide⟩
  obtain ⟨T8, h8, X8, e8, W8, st8⟩ := stD X6 hx hZ hh6 Ar7 (j := (0 : Int32)) hin8 (g := (mkF m 25 #[.val (.ref a), .val (.ref b3), .val (.int (0 : Int32))] [(dV xa1), (.int (0 : Int32)), (.ref b3)])) rfl rfl (hb hby d7_25)
  have N8 := Fr.snoc X8 N6 gn_b3
  have Vq8 : Arv Z h8 b3 k3 .double (6 : Int32) [(dV xa1), dZ, dZ, dZ, dZ, dZ] dZ := Arv.set Ar7 aq7 aS7 aN7 aH7 aG7 rfl W8 0 rfl (Nat.le_of_ble_eq_true rfl)
  replace E_a := E_a.wr W8
  replace F_lefts := F_lefts.other W8 (Or.inl ne_a_b3)
  replace F_rights := F_rights.other W8 (Or.inl ne_a_b3)
  replace V_dl := V_dl.other W8 ne_dl_b3
  replace V_dr := V_dr.other W8 ne_dr_b3
  have Zs9 := Nat.le_trans Zs4 (Keep.of_wr W8).1
  have KC9 := KC4.wr W8 (Or.inr sz_b3)
  obtain ⟨cl10, Ar10, aq10, aS10, aN10, aH10, aG10⟩ := id Vq8
  obtain ⟨cq11, q11, q11'⟩ := E_a.cell
  obtain ⟨_, _, ⟨T11, L11, k11, n11⟩, -, X11, ⟨Lc11, hQ11, l11, y11, z11⟩, st11⟩ := X8.privateBack hx (y := M20) hown (mvT hZ (tw150 hw)) (mvT hZ (tw151 hw)) (mvT hZ (own_selp (y := M20) (by decide) (tw2 hw) (tw152 hw) (tw151 hw))) (Cond.privateMethod_at (mvP hZ (tw152 hw) (args := #[]))) (mvT hZ (tw153 hw)) (by decide) (backOf (W := 2) (rmRV1 l Z a0 hw [] a dr dr_k ((3 : Int32)) ([(dV ya1), (dV ya2), (dV ya3)]) ya1 h8 n0 Zs9 F_rights V_dr (by decide) rfl) hZ (tw153 hw) (tw3 hw) (by decide) (by decide)) (g := (mkF m 22 #[.val (.ref a), .val (.ref b3), .val (.int (1 : Int32))] [(.int (1 : Int32)), (.ref a), (.int (1 : Int32)), (.ref b3)])) rfl (by rw [hml]; rfl) (Steps.refl _) (a := a) (by rw [e8]; exact q11) q11' (argsL := [(.int (1 : Int32))]) (rest := [(.int (1 : Int32)), (.ref b3)]) (lenOf pd__I_D rfl) rfl (own_mr rfl) (hb hby d7_22) (fun _ _ => ⟨rfl, e8, (by decide : 1 + 0 ≤ _), (by decide : 6 + 0 ≤ _)⟩)
  dsimp only [Pt.U, Pt.locs, Pt.cells, Pt.slots] at X11 l11 y11 z11 st11 hQ11
  rw [l11, y11, z11] at X11
  obtain ⟨rfl, N11q, hh11⟩ := hQ11
  have N11 := Fr.app N8 N11q
  obtain ⟨cl12, Ar12, aq12, aS12, aN12, aH12, aG12⟩ := id Vq8
  have hin13 : ¬ ((1 : Int32) < 0 ∨ cl12.slots.size ≤ ((1 : Int32)).toNatClampNeg) := inb_of aS12 ⟨by decide, by decide⟩
  obtain ⟨T13, h13, X13, e13, W13, st13⟩ := stD X11 hx hZ hh11 Ar12 (j := (1 : Int32)) hin13 (g := (mkF m 25 #[.val (.ref a), .val (.ref b3), .val (.int (1 : Int32))] [(dV ya1), (.int (1 : Int32)), (.ref b3)])) rfl rfl (hb hby d7_25)
  have N13 := Fr.snoc X13 N11 gn_b3
  have Vq13 : Arv Z h13 b3 k3 .double (6 : Int32) [(dV xa1), (dV ya1), dZ, dZ, dZ, dZ] dZ := Arv.set Ar12 aq12 aS12 aN12 aH12 aG12 rfl W13 1 rfl (Nat.le_of_ble_eq_true rfl)
  replace E_a := E_a.wr W13
  replace F_lefts := F_lefts.other W13 (Or.inl ne_a_b3)
  replace F_rights := F_rights.other W13 (Or.inl ne_a_b3)
  replace V_dl := V_dl.other W13 ne_dl_b3
  replace V_dr := V_dr.other W13 ne_dr_b3
  have Zs14 := Nat.le_trans Zs9 (Keep.of_wr W13).1
  have KC14 := KC9.wr W13 (Or.inr sz_b3)
  obtain ⟨cl15, Ar15, aq15, aS15, aN15, aH15, aG15⟩ := id Vq13
  obtain ⟨cq16, q16, q16'⟩ := E_a.cell
  obtain ⟨_, _, ⟨T16, L16, k16, n16⟩, -, X16, ⟨Lc16, hQ16, l16, y16, z16⟩, st16⟩ := X13.privateBack hx (y := M20) hown (mvT hZ (tw150 hw)) (mvT hZ (tw151 hw)) (mvT hZ (own_selp (y := M20) (by decide) (tw2 hw) (tw152 hw) (tw151 hw))) (Cond.privateMethod_at (mvP hZ (tw152 hw) (args := #[]))) (mvT hZ (tw153 hw)) (by decide) (backOf (W := 2) (rmRV2 l Z a0 hw [] a dl dl_k ((3 : Int32)) ([(dV xa1), (dV xa2), (dV xa3)]) xa2 h13 n0 Zs14 F_lefts V_dl (by decide) rfl) hZ (tw153 hw) (tw3 hw) (by decide) (by decide)) (g := (mkF m 22 #[.val (.ref a), .val (.ref b3), .val (.int (2 : Int32))] [(.int (2 : Int32)), (.ref a), (.int (2 : Int32)), (.ref b3)])) rfl (by rw [hml]; rfl) (Steps.refl _) (a := a) (by rw [e13]; exact q16) q16' (argsL := [(.int (2 : Int32))]) (rest := [(.int (2 : Int32)), (.ref b3)]) (lenOf pd__I_D rfl) rfl (own_mr rfl) (hb hby d7_22) (fun _ _ => ⟨rfl, e13, (by decide : 1 + 0 ≤ _), (by decide : 6 + 0 ≤ _)⟩)
  dsimp only [Pt.U, Pt.locs, Pt.cells, Pt.slots] at X16 l16 y16 z16 st16 hQ16
  rw [l16, y16, z16] at X16
  obtain ⟨rfl, N16q, hh16⟩ := hQ16
  have N16 := Fr.app N13 N16q
  obtain ⟨cl17, Ar17, aq17, aS17, aN17, aH17, aG17⟩ := id Vq13
  have hin18 : ¬ ((2 : Int32) < 0 ∨ cl17.slots.size ≤ ((2 : Int32)).toNatClampNeg) := inb_of aS17 ⟨by decide, by decide⟩
  obtain ⟨T18, h18, X18, e18, W18, st18⟩ := stD X16 hx hZ hh16 Ar17 (j := (2 : Int32)) hin18 (g := (mkF m 25 #[.val (.ref a), .val (.ref b3), .val (.int (2 : Int32))] [(dV xa2), (.int (2 : Int32)), (.ref b3)])) rfl rfl (hb hby d7_25)
  have N18 := Fr.snoc X18 N16 gn_b3
  have Vq18 : Arv Z h18 b3 k3 .double (6 : Int32) [(dV xa1), (dV ya1), (dV xa2), dZ, dZ, dZ] dZ := Arv.set Ar17 aq17 aS17 aN17 aH17 aG17 rfl W18 2 rfl (Nat.le_of_ble_eq_true rfl)
  replace E_a := E_a.wr W18
  replace F_lefts := F_lefts.other W18 (Or.inl ne_a_b3)
  replace F_rights := F_rights.other W18 (Or.inl ne_a_b3)
  replace V_dl := V_dl.other W18 ne_dl_b3
  replace V_dr := V_dr.other W18 ne_dr_b3
  have Zs19 := Nat.le_trans Zs14 (Keep.of_wr W18).1
  have KC19 := KC14.wr W18 (Or.inr sz_b3)
  have pre20 : Pr p e below I0 T18 (mkF m 26 #[.val (.ref a), .val (.ref b3), .val (.int (2 : Int32))] []) := by
   intro tg kk
   refine pre0 tg ?_
   refine XS.iconst X0.here hx rfl (hb hby d7_0) ?_
   refine XS.aloadN X0.here hx rfl (hb hby d7_1) rfl rfl ?_
   refine st1 _ ?_
   refine X1.arraylength hx (by rw [e1]; exact Ar2.1) (State.isArrayOf_alike hZ.alike Ar2.2.1) (g := (mkF m 5 #[.val (.ref a), .unset, .unset] [(.ref di), (.int (2 : Int32))])) rfl rfl (hb hby d7_5) _ ?_
   rw [len_of aS2 aN2]
   refine XS.imul X1.here hx rfl (hb hby d7_6) rfl ?_
   refine st3 _ ?_
   refine XS.astoreN X3.here hx rfl (hb hby d7_9) rfl rfl (l' := #[.val (.ref a), .val (.ref b3), .unset]) rfl ?_
   refine XS.iconst X3.here hx rfl (hb hby d7_10) ?_
   refine XS.istoreN X3.here hx rfl (hb hby d7_11) rfl (l' := #[.val (.ref a), .val (.ref b3), .val (.int (0 : Int32))]) rfl ?_
   refine XS.iloadN X3.here hx rfl (hb hby d7_12) rfl ?_
   refine XS.aloadN X3.here hx rfl (hb hby d7_13) rfl rfl ?_
   refine X3.arraylength hx (by rw [e3]; exact Ar5.1) (State.isArrayOf_alike hZ.alike Ar5.2.1) (g := (mkF m 14 #[.val (.ref a), .val (.ref b3), .val (.int (0 : Int32))] [(.ref b3), (.int (0 : Int32))])) rfl rfl (hb hby d7_14) _ ?_
   rw [len_of aS5 aN5]
   refine XS.icmpNo X3.here hx rfl (hb hby d7_15) rfl (XT.ii_ge_f (by decide)) ?_
   refine XS.aloadN X3.here hx rfl (hb hby d7_18) rfl rfl ?_
   refine XS.iloadN X3.here hx rfl (hb hby d7_19) rfl ?_
   refine XS.aloadN X3.here hx rfl (hb hby d7_20) rfl rfl ?_
   refine XS.iloadN X3.here hx rfl (hb hby d7_21) rfl ?_
   refine st6.trans ?_
   refine st8 _ ?_
   refine XS.iinc X8.here hx rfl (hb hby d7_26) rfl (l' := #[.val (.ref a), .val (.ref b3), .val (.int (1 : Int32))]) rfl ?_
   refine XS.goto X8.here hx rfl (pc0 := 29) (pc' := 12) rfl (hb hby d7_29) (by decide) (by decide) ?_
   refine XS.iloadN X8.here hx rfl (hb hby d7_12) rfl ?_
   refine XS.aloadN X8.here hx rfl (hb hby d7_13) rfl rfl ?_
   refine X8.arraylength hx (by rw [e8]; exact Ar10.1) (State.isArrayOf_alike hZ.alike Ar10.2.1) (g := (mkF m 14 #[.val (.ref a), .val (.ref b3), .val (.int (1 : Int32))] [(.ref b3), (.int (1 : Int32))])) rfl rfl (hb hby d7_14) _ ?_
   rw [len_of aS10 aN10]
   refine XS.icmpNo X8.here hx rfl (hb hby d7_15) rfl (XT.ii_ge_f (by decide)) ?_
   refine XS.aloadN X8.here hx rfl (hb hby d7_18) rfl rfl ?_
   refine XS.iloadN X8.here hx rfl (hb hby d7_19) rfl ?_
   refine XS.aloadN X8.here hx rfl (hb hby d7_20) rfl rfl ?_
   refine XS.iloadN X8.here hx rfl (hb hby d7_21) rfl ?_
   refine st11.trans ?_
   refine st13 _ ?_
   refine XS.iinc X13.here hx rfl (hb hby d7_26) rfl (l' := #[.val (.ref a), .val (.ref b3), .val (.int (2 : Int32))]) rfl ?_
   refine XS.goto X13.here hx rfl (pc0 := 29) (pc' := 12) rfl (hb hby d7_29) (by decide) (by decide) ?_
   refine XS.iloadN X13.here hx rfl (hb hby d7_12) rfl ?_
   refine XS.aloadN X13.here hx rfl (hb hby d7_13) rfl rfl ?_
   refine X13.arraylength hx (by rw [e13]; exact Ar15.1) (State.isArrayOf_alike hZ.alike Ar15.2.1) (g := (mkF m 14 #[.val (.ref a), .val (.ref b3), .val (.int (2 : Int32))] [(.ref b3), (.int (2 : Int32))])) rfl rfl (hb hby d7_14) _ ?_
   rw [len_of aS15 aN15]
   refine XS.icmpNo X13.here hx rfl (hb hby d7_15) rfl (XT.ii_ge_f (by decide)) ?_
   refine XS.aloadN X13.here hx rfl (hb hby d7_18) rfl rfl ?_
   refine XS.iloadN X13.here hx rfl (hb hby d7_19) rfl ?_
   refine XS.aloadN X13.here hx rfl (hb hby d7_20) rfl rfl ?_
   refine XS.iloadN X13.here hx rfl (hb hby d7_21) rfl ?_
   refine st16.trans ?_
   refine st18 _ ?_
   exact kk
  exact ⟨T18, _, h18, b3, k3, X18, N18, e18, Zs19, KC19, E_a, F_lefts, F_rights, V_dl, V_dr, Vq18, gn_b3, sz_b3, ne_a_b3, ne_dl_b3, ne_dr_b3, pre20⟩
 clear pre0 X0 N0 e0 KC0 Z0 E_a F_instants V_di F_lefts F_rights V_dl V_dr
 obtain ⟨cl22, Ar22, aq22, aS22, aN22, aH22, aG22⟩ := id Vq18_c21
 obtain ⟨cq23, q23, q23'⟩ := E_a_c21.cell
 obtain ⟨_, _, ⟨T23, L23, k23, n23⟩, -, X23, ⟨Lc23, hQ23, l23, y23, z23⟩, st23⟩ := X21.privateBack hx (y := M20) hown (mvT hZ (tw150 hw)) (mvT hZ (tw151 hw)) (mvT hZ (own_selp (y := M20) (by decide) (tw2 hw) (tw152 hw) (tw151 hw))) (Cond.privateMethod_at (mvP hZ (tw152 hw) (args := #[]))) (mvT hZ (tw153 hw)) (by decide) (backOf (W := 2) (rmRV3 l Z a0 hw [] a dr dr_k ((3 : Int32)) ([(dV ya1), (dV ya2), (dV ya3)]) ya2 Hc21 n0 Zs21 F_rights_c21 V_dr_c21 (by decide) rfl) hZ (tw153 hw) (tw3 hw) (by decide) (by decide)) (g := (mkF m 22 #[.val (.ref a), .val (.ref b3), .val (.int (3 : Int32))] [(.int (3 : Int32)), (.ref a), (.int (3 : Int32)), (.ref b3)])) rfl (by rw [hml]; rfl) (Steps.refl _) (a := a) (by rw [e21]; exact q23) q23' (argsL := [(.int (3 : Int32))]) (rest := [(.int (3 : Int32)), (.ref b3)]) (lenOf pd__I_D rfl) rfl (own_mr rfl) (hb hby d7_22) (fun _ _ => ⟨rfl, e21, (by decide : 1 + 0 ≤ _), (by decide : 6 + 0 ≤ _)⟩)
 dsimp only [Pt.U, Pt.locs, Pt.cells, Pt.slots] at X23 l23 y23 z23 st23 hQ23
 rw [l23, y23, z23] at X23
 obtain ⟨rfl, N23q, hh23⟩ := hQ23
 have N23 := Fr.app N21 N23q
 obtain ⟨cl24, Ar24, aq24, aS24, aN24, aH24, aG24⟩ := id Vq18_c21
 have hin25 : ¬ ((3 : Int32) < 0 ∨ cl24.slots.size ≤ ((3 : Int32)).toNatClampNeg) := inb_of aS24 ⟨by decide, by decide⟩
 obtain ⟨T25, h25, X25, e25, W25, st25⟩ := stD X23 hx hZ hh23 Ar24 (j := (3 : Int32)) hin25 (g := (mkF m 25 #[.val (.ref a), .val (.ref b3), .val (.int (3 : Int32))] [(dV ya2), (.int (3 : Int32)), (.ref b3)])) rfl rfl (hb hby d7_25)
 have N25 := Fr.snoc X25 N23 gnc21_0
 have Vq25 : Arv Z h25 b3 k3 .double (6 : Int32) [(dV xa1), (dV ya1), (dV xa2), (dV ya2), dZ, dZ] dZ := Arv.set Ar24 aq24 aS24 aN24 aH24 aG24 rfl W25 3 rfl (Nat.le_of_ble_eq_true rfl)
 replace E_a_c21 := E_a_c21.wr W25
 replace F_lefts_c21 := F_lefts_c21.other W25 (Or.inl nesc21_0)
 replace F_rights_c21 := F_rights_c21.other W25 (Or.inl nesc21_0)
 replace V_dl_c21 := V_dl_c21.other W25 nesc21_2
 replace V_dr_c21 := V_dr_c21.other W25 nesc21_3
 have Zs26 := Nat.le_trans Zs21 (Keep.of_wr W25).1
 have KC26 := KC21.wr W25 (Or.inr szc21_0)
 obtain ⟨cl27, Ar27, aq27, aS27, aN27, aH27, aG27⟩ := id Vq25
 obtain ⟨cq28, q28, q28'⟩ := E_a_c21.cell
 obtain ⟨_, _, ⟨T28, L28, k28, n28⟩, -, X28, ⟨Lc28, hQ28, l28, y28, z28⟩, st28⟩ := X25.privateBack hx (y := M20) hown (mvT hZ (tw150 hw)) (mvT hZ (tw151 hw)) (mvT hZ (own_selp (y := M20) (by decide) (tw2 hw) (tw152 hw) (tw151 hw))) (Cond.privateMethod_at (mvP hZ (tw152 hw) (args := #[]))) (mvT hZ (tw153 hw)) (by decide) (backOf (W := 2) (rmRV4 l Z a0 hw [] a dl dl_k ((3 : Int32)) ([(dV xa1), (dV xa2), (dV xa3)]) xa3 h25 n0 Zs26 F_lefts_c21 V_dl_c21 (by decide) rfl) hZ (tw153 hw) (tw3 hw) (by decide) (by decide)) (g := (mkF m 22 #[.val (.ref a), .val (.ref b3), .val (.int (4 : Int32))] [(.int (4 : Int32)), (.ref a), (.int (4 : Int32)), (.ref b3)])) rfl (by rw [hml]; rfl) (Steps.refl _) (a := a) (by rw [e25]; exact q28) q28' (argsL := [(.int (4 : Int32))]) (rest := [(.int (4 : Int32)), (.ref b3)]) (lenOf pd__I_D rfl) rfl (own_mr rfl) (hb hby d7_22) (fun _ _ => ⟨rfl, e25, (by decide : 1 + 0 ≤ _), (by decide : 6 + 0 ≤ _)⟩)
 dsimp only [Pt.U, Pt.locs, Pt.cells, Pt.slots] at X28 l28 y28 z28 st28 hQ28
 rw [l28, y28, z28] at X28
 obtain ⟨rfl, N28q, hh28⟩ := hQ28
 have N28 := Fr.app N25 N28q
 obtain ⟨cl29, Ar29, aq29, aS29, aN29, aH29, aG29⟩ := id Vq25
 have hin30 : ¬ ((4 : Int32) < 0 ∨ cl29.slots.size ≤ ((4 : Int32)).toNatClampNeg) := inb_of aS29 ⟨by decide, by decide⟩
 obtain ⟨T30, h30, X30, e30, W30, st30⟩ := stD X28 hx hZ hh28 Ar29 (j := (4 : Int32)) hin30 (g := (mkF m 25 #[.val (.ref a), .val (.ref b3), .val (.int (4 : Int32))] [(dV xa3), (.int (4 : Int32)), (.ref b3)])) rfl rfl (hb hby d7_25)
 have N30 := Fr.snoc X30 N28 gnc21_0
 have Vq30 : Arv Z h30 b3 k3 .double (6 : Int32) [(dV xa1), (dV ya1), (dV xa2), (dV ya2), (dV xa3), dZ] dZ := Arv.set Ar29 aq29 aS29 aN29 aH29 aG29 rfl W30 4 rfl (Nat.le_of_ble_eq_true rfl)
 replace E_a_c21 := E_a_c21.wr W30
 replace F_rights_c21 := F_rights_c21.other W30 (Or.inl nesc21_0)
 replace V_dr_c21 := V_dr_c21.other W30 nesc21_3
 have Zs31 := Nat.le_trans Zs26 (Keep.of_wr W30).1
 have KC31 := KC26.wr W30 (Or.inr szc21_0)
 obtain ⟨cl32, Ar32, aq32, aS32, aN32, aH32, aG32⟩ := id Vq30
 obtain ⟨cq33, q33, q33'⟩ := E_a_c21.cell
 obtain ⟨_, _, ⟨T33, L33, k33, n33⟩, -, X33, ⟨Lc33, hQ33, l33, y33, z33⟩, st33⟩ := X30.privateBack hx (y := M20) hown (mvT hZ (tw150 hw)) (mvT hZ (tw151 hw)) (mvT hZ (own_selp (y := M20) (by decide) (tw2 hw) (tw152 hw) (tw151 hw))) (Cond.privateMethod_at (mvP hZ (tw152 hw) (args := #[]))) (mvT hZ (tw153 hw)) (by decide) (backOf (W := 2) (rmRV5 l Z a0 hw [] a dr dr_k ((3 : Int32)) ([(dV ya1), (dV ya2), (dV ya3)]) ya3 h30 n0 Zs31 F_rights_c21 V_dr_c21 (by decide) rfl) hZ (tw153 hw) (tw3 hw) (by decide) (by decide)) (g := (mkF m 22 #[.val (.ref a), .val (.ref b3), .val (.int (5 : Int32))] [(.int (5 : Int32)), (.ref a), (.int (5 : Int32)), (.ref b3)])) rfl (by rw [hml]; rfl) (Steps.refl _) (a := a) (by rw [e30]; exact q33) q33' (argsL := [(.int (5 : Int32))]) (rest := [(.int (5 : Int32)), (.ref b3)]) (lenOf pd__I_D rfl) rfl (own_mr rfl) (hb hby d7_22) (fun _ _ => ⟨rfl, e30, (by decide : 1 + 0 ≤ _), (by decide : 6 + 0 ≤ _)⟩)
 dsimp only [Pt.U, Pt.locs, Pt.cells, Pt.slots] at X33 l33 y33 z33 st33 hQ33
 rw [l33, y33, z33] at X33
 obtain ⟨rfl, N33q, hh33⟩ := hQ33
 have N33 := Fr.app N30 N33q
 obtain ⟨cl34, Ar34, aq34, aS34, aN34, aH34, aG34⟩ := id Vq30
 have hin35 : ¬ ((5 : Int32) < 0 ∨ cl34.slots.size ≤ ((5 : Int32)).toNatClampNeg) := inb_of aS34 ⟨by decide, by decide⟩
 obtain ⟨T35, h35, X35, e35, W35, st35⟩ := stD X33 hx hZ hh33 Ar34 (j := (5 : Int32)) hin35 (g := (mkF m 25 #[.val (.ref a), .val (.ref b3), .val (.int (5 : Int32))] [(dV ya3), (.int (5 : Int32)), (.ref b3)])) rfl rfl (hb hby d7_25)
 have N35 := Fr.snoc X35 N33 gnc21_0
 have Vq35 : Arv Z h35 b3 k3 .double (6 : Int32) [(dV xa1), (dV ya1), (dV xa2), (dV ya2), (dV xa3), (dV ya3)] dZ := Arv.set Ar34 aq34 aS34 aN34 aH34 aG34 rfl W35 5 rfl (Nat.le_of_ble_eq_true rfl)
 have Zs36 := Nat.le_trans Zs31 (Keep.of_wr W35).1
 have KC36 := KC31.wr W35 (Or.inr szc21_0)
 obtain ⟨cl37, Ar37, aq37, aS37, aN37, aH37, aG37⟩ := id Vq35
 obtain ⟨fs, hr, hrun, hended, hW, hsame⟩ := X35.leave (v := some (.ref b3)) (fun h => by rw [Bd.returns] at h; cases h)
 refine ⟨_, _, pre21 _ ?_, hrun, hended, _, _, rfl, ?_, ⟨_, rfl⟩, hW, hsame.mono (by decide) (by decide)⟩
 ·skip
  refine XS.iinc X21.here hx rfl (hb hby d7_26) rfl (l' := #[.val (.ref a), .val (.ref b3), .val (.int (3 : Int32))]) rfl ?_
  refine XS.goto X21.here hx rfl (pc0 := 29) (pc' := 12) rfl (hb hby d7_29) (by decide) (by decide) ?_
  refine XS.iloadN X21.here hx rfl (hb hby d7_12) rfl ?_
  refine XS.aloadN X21.here hx rfl (hb hby d7_13) rfl rfl ?_
  refine X21.arraylength hx (by rw [e21]; exact Ar22.1) (State.isArrayOf_alike hZ.alike Ar22.2.1) (g := (mkF m 14 #[.val (.ref a), .val (.ref b3), .val (.int (3 : Int32))] [(.ref b3), (.int (3 : Int32))])) rfl rfl (hb hby d7_14) _ ?_
  rw [len_of aS22 aN22]
  refine XS.icmpNo X21.here hx rfl (hb hby d7_15) rfl (XT.ii_ge_f (by decide)) ?_
  refine XS.aloadN X21.here hx rfl (hb hby d7_18) rfl rfl ?_
  refine XS.iloadN X21.here hx rfl (hb hby d7_19) rfl ?_
  refine XS.aloadN X21.here hx rfl (hb hby d7_20) rfl rfl ?_
  refine XS.iloadN X21.here hx rfl (hb hby d7_21) rfl ?_
  refine st23.trans ?_
  refine st25 _ ?_
  refine XS.iinc X25.here hx rfl (hb hby d7_26) rfl (l' := #[.val (.ref a), .val (.ref b3), .val (.int (4 : Int32))]) rfl ?_
  refine XS.goto X25.here hx rfl (pc0 := 29) (pc' := 12) rfl (hb hby d7_29) (by decide) (by decide) ?_
  refine XS.iloadN X25.here hx rfl (hb hby d7_12) rfl ?_
  refine XS.aloadN X25.here hx rfl (hb hby d7_13) rfl rfl ?_
  refine X25.arraylength hx (by rw [e25]; exact Ar27.1) (State.isArrayOf_alike hZ.alike Ar27.2.1) (g := (mkF m 14 #[.val (.ref a), .val (.ref b3), .val (.int (4 : Int32))] [(.ref b3), (.int (4 : Int32))])) rfl rfl (hb hby d7_14) _ ?_
  rw [len_of aS27 aN27]
  refine XS.icmpNo X25.here hx rfl (hb hby d7_15) rfl (XT.ii_ge_f (by decide)) ?_
  refine XS.aloadN X25.here hx rfl (hb hby d7_18) rfl rfl ?_
  refine XS.iloadN X25.here hx rfl (hb hby d7_19) rfl ?_
  refine XS.aloadN X25.here hx rfl (hb hby d7_20) rfl rfl ?_
  refine XS.iloadN X25.here hx rfl (hb hby d7_21) rfl ?_
  refine st28.trans ?_
  refine st30 _ ?_
  refine XS.iinc X30.here hx rfl (hb hby d7_26) rfl (l' := #[.val (.ref a), .val (.ref b3), .val (.int (5 : Int32))]) rfl ?_
  refine XS.goto X30.here hx rfl (pc0 := 29) (pc' := 12) rfl (hb hby d7_29) (by decide) (by decide) ?_
  refine XS.iloadN X30.here hx rfl (hb hby d7_12) rfl ?_
  refine XS.aloadN X30.here hx rfl (hb hby d7_13) rfl rfl ?_
  refine X30.arraylength hx (by rw [e30]; exact Ar32.1) (State.isArrayOf_alike hZ.alike Ar32.2.1) (g := (mkF m 14 #[.val (.ref a), .val (.ref b3), .val (.int (5 : Int32))] [(.ref b3), (.int (5 : Int32))])) rfl rfl (hb hby d7_14) _ ?_
  rw [len_of aS32 aN32]
  refine XS.icmpNo X30.here hx rfl (hb hby d7_15) rfl (XT.ii_ge_f (by decide)) ?_
  refine XS.aloadN X30.here hx rfl (hb hby d7_18) rfl rfl ?_
  refine XS.iloadN X30.here hx rfl (hb hby d7_19) rfl ?_
  refine XS.aloadN X30.here hx rfl (hb hby d7_20) rfl rfl ?_
  refine XS.iloadN X30.here hx rfl (hb hby d7_21) rfl ?_
  refine st33.trans ?_
  refine st35 _ ?_
  refine XS.iinc X35.here hx rfl (hb hby d7_26) rfl (l' := #[.val (.ref a), .val (.ref b3), .val (.int (6 : Int32))]) rfl ?_
  refine XS.goto X35.here hx rfl (pc0 := 29) (pc' := 12) rfl (hb hby d7_29) (by decide) (by decide) ?_
  refine XS.iloadN X35.here hx rfl (hb hby d7_12) rfl ?_
  refine XS.aloadN X35.here hx rfl (hb hby d7_13) rfl rfl ?_
  refine X35.arraylength hx (by rw [e35]; exact Ar37.1) (State.isArrayOf_alike hZ.alike Ar37.2.1) (g := (mkF m 14 #[.val (.ref a), .val (.ref b3), .val (.int (6 : Int32))] [(.ref b3), (.int (6 : Int32))])) rfl rfl (hb hby d7_14) _ ?_
  rw [len_of aS37 aN37]
  refine XS.icmpYes X35.here hx rfl (pc0 := 15) (pc' := 32) rfl (hb hby d7_15) rfl (XT.ii_ge_t (by decide)) (by decide) (by decide) ?_
  refine XS.aloadN X35.here hx rfl (hb hby d7_32) rfl rfl ?_
  exact retOut X35 hx Bd.returns rfl (Or.inr (Or.inr (Or.inr (Or.inr ⟨rfl, rfl, rfl⟩)))) (hb hby d7_33) hr
 ·show QLV3 Z a dl dl_k dr dr_k xa1 xa2 xa3 ya1 ya2 ya3 di di_k da1 da2 da3 h0 n0 _ T35.heap _
  rw [e35]
  exact ⟨b3, k3, rfl, N35, KC36, gnc21_0, szc21_0, Vq35⟩
theorem d8_0 : decode cmethod_3 0 = .ok (.iload_n 3, 1) := by decide +kernel
theorem d8_1 : decode cmethod_3 1 = .ok (.iload_n 2, 1) := by decide +kernel
theorem d8_2 : decode cmethod_3 2 = .ok (.if_icmp .ge 13, 3) := by decide +kernel
theorem d8_15 : decode cmethod_3 15 = .ok (.iconst 1, 1) := by decide +kernel
theorem d8_16 : decode cmethod_3 16 = .ok (.goto 4, 3) := by decide +kernel
theorem d8_20 : decode cmethod_3 20 = .ok (.ireturn, 1) := by decide +kernel
theorem pn_8 : plainName "com/example/narrow_bound/narrowbound/witness/CumulativeFunctionLevelsPinLaw" = true := by first | (simp [plainName, overriddenIn]; done) | decide +kernel
theorem ef8_RRII (m : MethodId) (x0 : Addr) (x1 : Addr) (x2 : Int32) (x3 : Int32) : entryFrame m #[(.ref x0), (.ref x1), (.int x2), (.int x3)] 4 = mkF m 0 #[.val (.ref x0), .val (.ref x1), .val (.int x2), .val (.int x3)] [] := by first | (simp [entryFrame, mkF, argsToLocals, Value.category]; done) | rfl
def QSN (Z : State) (ra : Addr) (ea : Addr) (k : Int32) (j : Int32) (h0 : Heap) (n0 : Nat) (v : Option Value) (h : Heap) (L : List Loc) : Prop := v = some (.int (1 : Int32)) ∧ Fr n0 L ∧ h = h0
set_option maxRecDepth 65536 in
set_option maxHeartbeats 40000000 in
theorem rmSN (l : Launch) (Z : State) (a0 : Array Value) (hw : HW a0 Z) (ws : List Jvm.Cond) (ra : Addr) (ea : Addr) (k : Int32) (j : Int32) (h0 : Heap) (n0 : Nat) (Z0 : n0 ≤ h0.size) (hjk : ¬ j < k) :
    MetFree l M22 (head1 (Jvm.Cond.code M22 method_3_code 4 (some .boolean) :: ws) R0_0_0_0) (fun ar UU => ar = #[(.ref ra), (.ref ea), (.int k), (.int j)] ∧ Z.Warmed39 UU.vm ∧ UU.heap = h0) (fun _ _ _ _ _ => True) (fun _ UU oo UU' => ∃ vv LL, oo = .returned vv ∧ QSN Z ra ea k j h0 n0 vv UU'.heap LL ∧ FrameEnd UU oo UU' LL R0_0_0_0.cells R0_0_0_0.slots) := by
 refine MetFree.of_bodySF (plainFor_of_name pn_8) hisR ?_
 intro p e s m args below meth c s₁ Bd hml0 hP hK
 obtain ⟨rfl, hZ, hh⟩ := hP
 have hx := Bd.exec
 have hby := Bd.bytes
 have hml : c.maxLocals = 4 := hml0
 have hown : s.vm.findClass "com/example/narrow_bound/narrowbound/witness/CumulativeFunctionLevelsPinLaw" = some m.cls := findClass_of_methodNamed Bd.named
 have hnm := (name_of_methodNamed Bd.named Bd.method).1
 have X0 : Stand p l e R0_0_0_0 s m #[(.ref ra), (.ref ea), (.int k), (.int j)] below meth c s₁ [] 0 0 := Stand.of_body Bd
 have e0 : s₁.heap = h0 := by rw [← hh, Bd.state]; rfl
 have N0 := Fr.nil n0
 have KC0 : Keep h0 h0 [] := Keep.refl h0 []
 have pre0 : ∀ tgt, Steps p.tables e below (s₁.setTop (mkF m 0 #[.val (.ref ra), .val (.ref ea), .val (.int k), .val (.int j)] [])) tgt → Steps p.tables e below (s₁.setTop (entryFrame m #[(.ref ra), (.ref ea), (.int k), (.int j)] 4)) tgt := fun tgt kk => castTop (ef8_RRII m (ra) (ea) (k) (j)) kk
 generalize hI : s₁.setTop (entryFrame m #[(.ref ra), (.ref ea), (.int k), (.int j)] 4) = I0 at pre0 ⊢
 have hk1 : ¬ (j < k) := hjk
 obtain ⟨fs, hr, hrun, hended, hW, hsame⟩ := X0.leave (v := some (.int (1 : Int32))) (fun h => by rw [Bd.returns] at h; cases h)
 refine ⟨_, _, pre0 _ ?_, hrun, hended, _, _, rfl, ?_, ⟨_, rfl⟩, hW, hsame.mono (by decide) (by decide)⟩
 ·skip
  refine XS.iloadN X0.here hx rfl (hb hby d8_0) rfl ?_
  refine XS.iloadN X0.here hx rfl (hb hby d8_1) rfl ?_
  refine XS.icmpYes X0.here hx rfl (pc0 := 2) (pc' := 15) rfl (hb hby d8_2) rfl (XT.ii_ge_t hk1) (by decide) (by decide) ?_
  refine XS.iconst X0.here hx rfl (hb hby d8_15) ?_
  refine XS.goto X0.here hx rfl (pc0 := 16) (pc' := 20) rfl (hb hby d8_16) (by decide) (by decide) ?_
  exact retN X0 hx (t := .boolean) Bd.returns (by simp) (hb hby d8_20) hr
 ·show QSN Z ra ea k j h0 n0 _ s₁.heap _
  rw [e0]
  exact ⟨rfl, N0, rfl⟩
theorem d8_5 : decode cmethod_3 5 = .ok (.aload_n 0, 1) := by decide +kernel
theorem d8_6 : decode cmethod_3 6 = .ok (.iload_n 3, 1) := by decide +kernel
theorem d8_7 : decode cmethod_3 7 = .ok (.daload, 1) := by decide +kernel
theorem d8_8 : decode cmethod_3 8 = .ok (.aload_n 1, 1) := by decide +kernel
theorem d8_9 : decode cmethod_3 9 = .ok (.iload_n 3, 1) := by decide +kernel
theorem d8_10 : decode cmethod_3 10 = .ok (.daload, 1) := by decide +kernel
theorem d8_11 : decode cmethod_3 11 = .ok (.dcmp .l, 1) := by decide +kernel
theorem d8_12 : decode cmethod_3 12 = .ok (.ifCond .ne 7, 3) := by decide +kernel
def QSY (Z : State) (ra : Addr) (ea : Addr) (k : Int32) (j : Int32) (ra_k : ClassId) (ea_k : ClassId) (lr : Int32) (le : Int32) (vr : List Value) (ve : List Value) (q1 : Int64) (h0 : Heap) (n0 : Nat) (v : Option Value) (h : Heap) (L : List Loc) : Prop := v = some (.int (1 : Int32)) ∧ Fr n0 L ∧ h = h0
set_option maxRecDepth 65536 in
set_option maxHeartbeats 40000000 in
theorem rmSY (l : Launch) (Z : State) (a0 : Array Value) (hw : HW a0 Z) (ws : List Jvm.Cond) (ra : Addr) (ea : Addr) (k : Int32) (j : Int32) (ra_k : ClassId) (ea_k : ClassId) (lr : Int32) (le : Int32) (vr : List Value) (ve : List Value) (q1 : Int64) (h0 : Heap) (n0 : Nat) (Z0 : n0 ≤ h0.size) (V_r : Arv Z h0 ra ra_k .double lr vr dZ) (V_e : Arv Z h0 ea ea_k .double le ve dZ) (hjk : j < k) (hjr : ¬ j < 0 ∧ j < lr) (hje : ¬ j < 0 ∧ j < le) (har : vr.getD j.toNatClampNeg dZ = (dV q1)) (hae : ve.getD j.toNatClampNeg dZ = (dV q1)) (b_q1 : B53 q1) :
    MetFree l M22 (head1 (Jvm.Cond.code M22 method_3_code 4 (some .boolean) :: ws) R0_0_0_0) (fun ar UU => ar = #[(.ref ra), (.ref ea), (.int k), (.int j)] ∧ Z.Warmed39 UU.vm ∧ UU.heap = h0) (fun _ _ _ _ _ => True) (fun _ UU oo UU' => ∃ vv LL, oo = .returned vv ∧ QSY Z ra ea k j ra_k ea_k lr le vr ve q1 h0 n0 vv UU'.heap LL ∧ FrameEnd UU oo UU' LL R0_0_0_0.cells R0_0_0_0.slots) := by
 refine MetFree.of_bodySF (plainFor_of_name pn_8) hisR ?_
 intro p e s m args below meth c s₁ Bd hml0 hP hK
 obtain ⟨rfl, hZ, hh⟩ := hP
 have hx := Bd.exec
 have hby := Bd.bytes
 have hml : c.maxLocals = 4 := hml0
 have hown : s.vm.findClass "com/example/narrow_bound/narrowbound/witness/CumulativeFunctionLevelsPinLaw" = some m.cls := findClass_of_methodNamed Bd.named
 have hnm := (name_of_methodNamed Bd.named Bd.method).1
 have X0 : Stand p l e R0_0_0_0 s m #[(.ref ra), (.ref ea), (.int k), (.int j)] below meth c s₁ [] 0 0 := Stand.of_body Bd
 have e0 : s₁.heap = h0 := by rw [← hh, Bd.state]; rfl
 have N0 := Fr.nil n0
 have KC0 : Keep h0 h0 [] := Keep.refl h0 []
 have pre0 : ∀ tgt, Steps p.tables e below (s₁.setTop (mkF m 0 #[.val (.ref ra), .val (.ref ea), .val (.int k), .val (.int j)] [])) tgt → Steps p.tables e below (s₁.setTop (entryFrame m #[(.ref ra), (.ref ea), (.int k), (.int j)] 4)) tgt := fun tgt kk => castTop (ef8_RRII m (ra) (ea) (k) (j)) kk
 generalize hI : s₁.setTop (entryFrame m #[(.ref ra), (.ref ea), (.int k), (.int j)] 4) = I0 at pre0 ⊢
 have hk1 : j < k := hjk
 obtain ⟨cl2, Ar2, aq2, aS2, aN2, aH2, aG2⟩ := id V_r
 have hin3 : ¬ (j < 0 ∨ cl2.slots.size ≤ (j).toNatClampNeg) := inb_of aS2 hjr
 have hat3 : cl2.slots[(j).toNatClampNeg]? = some (dV q1) := Has.at aH2 hin3 har
 obtain ⟨cl4, Ar4, aq4, aS4, aN4, aH4, aG4⟩ := id V_e
 have hin5 : ¬ (j < 0 ∨ cl4.slots.size ≤ (j).toNatClampNeg) := inb_of aS4 hje
 have hat5 : cl4.slots[(j).toNatClampNeg]? = some (dV q1) := Has.at aH4 hin5 hae
 have hk6 : q1 = q1 := rfl
 obtain ⟨fs, hr, hrun, hended, hW, hsame⟩ := X0.leave (v := some (.int (1 : Int32))) (fun h => by rw [Bd.returns] at h; cases h)
 refine ⟨_, _, pre0 _ ?_, hrun, hended, _, _, rfl, ?_, ⟨_, rfl⟩, hW, hsame.mono (by decide) (by decide)⟩
 ·skip
  refine XS.iloadN X0.here hx rfl (hb hby d8_0) rfl ?_
  refine XS.iloadN X0.here hx rfl (hb hby d8_1) rfl ?_
  refine XS.icmpNo X0.here hx rfl (hb hby d8_2) rfl (XT.ii_ge_f hk1) ?_
  refine XS.aloadN X0.here hx rfl (hb hby d8_5) rfl rfl ?_
  refine XS.iloadN X0.here hx rfl (hb hby d8_6) rfl ?_
  refine X0.daload hx (j := j) (v := (dV q1)) (by rw [e0]; exact Ar2.1) (State.isArrayOf_alike hZ.alike Ar2.2.1) Ar2.2.2 hin3 hat3 (g := (mkF m 7 #[.val (.ref ra), .val (.ref ea), .val (.int k), .val (.int j)] [(.int j), (.ref ra)])) rfl rfl (hb hby d8_7) _ ?_
  refine XS.aloadN X0.here hx rfl (hb hby d8_8) rfl rfl ?_
  refine XS.iloadN X0.here hx rfl (hb hby d8_9) rfl ?_
  refine X0.daload hx (j := j) (v := (dV q1)) (by rw [e0]; exact Ar4.1) (State.isArrayOf_alike hZ.alike Ar4.2.1) Ar4.2.2 hin5 hat5 (g := (mkF m 10 #[.val (.ref ra), .val (.ref ea), .val (.int k), .val (.int j)] [(.int j), (.ref ea), (dV q1)])) rfl rfl (hb hby d8_10) _ ?_
  refine XS.dcmpS X0.here hx rfl (hb hby d8_11) rfl (dcmpV_w b_q1 b_q1 _) ?_
  refine XS.ifNo X0.here hx rfl (hb hby d8_12) rfl (XT.ll_ne_f hk6) ?_
  refine XS.iconst X0.here hx rfl (hb hby d8_15) ?_
  refine XS.goto X0.here hx rfl (pc0 := 16) (pc' := 20) rfl (hb hby d8_16) (by decide) (by decide) ?_
  exact retN X0 hx (t := .boolean) Bd.returns (by simp) (hb hby d8_20) hr
 ·show QSY Z ra ea k j ra_k ea_k lr le vr ve q1 h0 n0 _ s₁.heap _
  rw [e0]
  exact ⟨rfl, N0, rfl⟩
set_option maxRecDepth 65536 in
set_option maxHeartbeats 40000000 in
theorem sP {p : Program} {l : Launch} {e : Env} {s : State} {m : MethodId} {below : List Frame} {meth : Method} {c : Code} {T0 : State} {lo0 : List Loc} {Z : State} {a0 : Array Value} (hw : HW a0 Z) (hx : p.tables.exec = Jvm.exec) (hby : c.code = code) (hml : c.maxLocals = 26) (hZ : Z.Warmed39 s.vm) (hown : s.vm.findClass "com/example/narrow_bound/narrowbound/witness/CumulativeFunctionLevelsPinLaw" = some m.cls) (hnm : meth.name = "law") (p1 : Int32) (p2 : Int32) (p3 : Int32) (p4 : Int32) (p5 : Int32) (tu0 : Int64) (tu1 : Int64) (tu2 : Int64) (vu0 : Int64) (vu1 : Int64) (vu2 : Int64) (kB : Nat) (aE : Addr) (kE : ClassId) (aC : Addr) (kC : ClassId) (lC : List Value) (i0 : Addr) (i1 : Addr) (i2 : Addr) {h0 hs : Heap} {n0 : Nat} (X0 : Stand p l e room_1 s m #[(.int p1), (.int p2), (.int p3), (.int p4), (.int p5)] below meth c T0 lo0 0 0) (N0 : Fr n0 lo0) (e0 : T0.heap = hs) (Z0 : n0 ≤ hs.size) (KC0 : Keep h0 hs []) (htu0 : tu0 = (((p2 &&& (1023 : Int32)) - (512 : Int32))).toInt64) (htu1 : tu1 = (tu0 + ((p3 &&& (3 : Int32))).toInt64)) (htu2 : tu2 = (tu1 + ((((p3.toUInt32 >>> ((2 : Int32) &&& 31).toUInt32).toInt32) &&& (3 : Int32))).toInt64)) (hvu0 : vu0 = ((p4 &&& (255 : Int32))).toInt64) (hvu1 : vu1 = (vu0 + ((p5 &&& (7 : Int32))).toInt64)) (hvu2 : vu2 = (vu1 + ((((p5.toUInt32 >>> ((3 : Int32) &&& 31).toUInt32).toInt32) &&& (7 : Int32))).toInt64)) (b_tu0 : B53 tu0) (b_tu1 : B53 tu1) (b_tu2 : B53 tu2) (b_vu0 : B53 vu0) (b_vu1 : B53 vu1) (b_vu2 : B53 vu2) (EN : EnvJ Z kB hs aE kE aC kC lC i0 i1 i2) (hkB : kB ≤ h0.size) :
    ∃ (T1 : State) (lo1 : List Loc) (h1 : Heap) (ea : Addr) (ea_k : ClassId), Stand p l e room_1 s m #[(.int p1), (.int p2), (.int p3), (.int p4), (.int p5)] below meth c T1 lo1 1 6 ∧ Fr n0 lo1 ∧ T1.heap = h1 ∧ n0 ≤ h1.size ∧ Keep h0 h1 [] ∧ EnvJ Z kB h1 aE kE aC kC lC i0 i1 i2 ∧ Arv Z h1 ea ea_k .double (6 : Int32) [dZ, dZ, dZ, dZ, dZ, dZ] dZ ∧ n0 ≤ ea ∧ h0.size ≤ ea ∧ Pr p e below (T0.setTop (mkF m 0 #[.val (.int p1), .val (.int p2), .val (.int p3), .val (.int p4), .val (.int p5), .unset, .unset, .unset, .unset, .unset, .unset, .unset, .unset, .unset, .unset, .unset, .unset, .unset, .unset, .unset, .unset, .unset, .unset, .unset, .unset, .unset] [])) T1 (mkF m 83 (LA p1 p2 p3 p4 p5 (.val (.int (p1 &&& (3 : Int32)))) tu0 tu1 tu2 vu0 vu1 vu2 .unset .unset (.val (.ref ea)) .unset .unset .unset) []) := by
 have pre0 : Pr p e below (T0.setTop (mkF m 0 #[.val (.int p1), .val (.int p2), .val (.int p3), .val (.int p4), .val (.int p5), .unset, .unset, .unset, .unset, .unset, .unset, .unset, .unset, .unset, .unset, .unset, .unset, .unset, .unset, .unset, .unset, .unset, .unset, .unset, .unset, .unset] [])) T0 (mkF m 0 #[.val (.int p1), .val (.int p2), .val (.int p3), .val (.int p4), .val (.int p5), .unset, .unset, .unset, .unset, .unset, .unset, .unset, .unset, .unset, .unset, .unset, .unset, .unset, .unset, .unset, .unset, .unset, .unset, .unset, .unset, .unset] []) := fun _ kk => kk
 generalize hI : T0.setTop (mkF m 0 #[.val (.int p1), .val (.int p2), .val (.int p3), .val (.int p4), .val (.int p5), .unset, .unset, .unset, .unset, .unset, .unset, .unset, .unset, .unset, .unset, .unset, .unset, .unset, .unset, .unset, .unset, .unset, .unset, .unset, .unset, .unset] []) = I0 at pre0 ⊢
 have pre1 : Pr p e below I0 T0 (mkF m 17 #[.val (.int p1), .val (.int p2), .val (.int p3), .val (.int p4), .val (.int p5), .val (.int (p1 &&& (3 : Int32))), .val (dV (((p2 &&& (1023 : Int32)) - (512 : Int32))).toInt64), .second, .unset, .unset, .unset, .unset, .unset, .unset, .unset, .unset, .unset, .unset, .unset, .unset, .unset, .unset, .unset, .unset, .unset, .unset] []) := by
  intro tg kk
  refine pre0 tg ?_
  refine XS.iloadN X0.here hx rfl (hb hby at_0) rfl ?_
  refine XS.iconst X0.here hx rfl (hb hby at_1) ?_
  refine XS.iand X0.here hx rfl (hb hby at_2) rfl ?_
  refine XS.istore X0.here hx rfl (hb hby at_3) rfl (l' := #[.val (.int p1), .val (.int p2), .val (.int p3), .val (.int p4), .val (.int p5), .val (.int (p1 &&& (3 : Int32))), .unset, .unset, .unset, .unset, .unset, .unset, .unset, .unset, .unset, .unset, .unset, .unset, .unset, .unset, .unset, .unset, .unset, .unset, .unset, .unset]) rfl ?_
  refine XS.iloadN X0.here hx rfl (hb hby at_5) rfl ?_
  refine XS.sipush X0.here hx rfl (hb hby at_6) ?_
  refine XS.iand X0.here hx rfl (hb hby at_9) rfl ?_
  refine XS.sipush X0.here hx rfl (hb hby at_10) ?_
  refine XS.isub X0.here hx rfl (hb hby at_13) rfl ?_
  refine XS.i2dS X0.here hx rfl (hb hby at_14) rfl (i2d_w _) ?_
  refine XS.dstore X0.here hx rfl (hb hby at_15) rfl (l' := #[.val (.int p1), .val (.int p2), .val (.int p3), .val (.int p4), .val (.int p5), .val (.int (p1 &&& (3 : Int32))), .val (dV (((p2 &&& (1023 : Int32)) - (512 : Int32))).toInt64), .second, .unset, .unset, .unset, .unset, .unset, .unset, .unset, .unset, .unset, .unset, .unset, .unset, .unset, .unset, .unset, .unset, .unset, .unset]) rfl ?_
  exact kk
 rw [← htu0] at pre1
 have pre2 : Pr p e below I0 T0 (mkF m 37 #[.val (.int p1), .val (.int p2), .val (.int p3), .val (.int p4), .val (.int p5), .val (.int (p1 &&& (3 : Int32))), .val (dV tu0), .second, .val (.int (p3 &&& (3 : Int32))), .val (.int (((p3.toUInt32 >>> ((2 : Int32) &&& 31).toUInt32).toInt32) &&& (3 : Int32))), .val (dV (tu0 + ((p3 &&& (3 : Int32))).toInt64)), .second, .unset, .unset, .unset, .unset, .unset, .unset, .unset, .unset, .unset, .unset, .unset, .unset, .unset, .unset] []) := by
  intro tg kk
  refine pre1 tg ?_
  refine XS.iloadN X0.here hx rfl (hb hby at_17) rfl ?_
  refine XS.iconst X0.here hx rfl (hb hby at_18) ?_
  refine XS.iand X0.here hx rfl (hb hby at_19) rfl ?_
  refine XS.istore X0.here hx rfl (hb hby at_20) rfl (l' := #[.val (.int p1), .val (.int p2), .val (.int p3), .val (.int p4), .val (.int p5), .val (.int (p1 &&& (3 : Int32))), .val (dV tu0), .second, .val (.int (p3 &&& (3 : Int32))), .unset, .unset, .unset, .unset, .unset, .unset, .unset, .unset, .unset, .unset, .unset, .unset, .unset, .unset, .unset, .unset, .unset]) rfl ?_
  refine XS.iloadN X0.here hx rfl (hb hby at_22) rfl ?_
  refine XS.iconst X0.here hx rfl (hb hby at_23) ?_
  refine XS.iushr X0.here hx rfl (hb hby at_24) rfl ?_
  refine XS.iconst X0.here hx rfl (hb hby at_25) ?_
  refine XS.iand X0.here hx rfl (hb hby at_26) rfl ?_
  refine XS.istore X0.here hx rfl (hb hby at_27) rfl (l' := #[.val (.int p1), .val (.int p2), .val (.int p3), .val (.int p4), .val (.int p5), .val (.int (p1 &&& (3 : Int32))), .val (dV tu0), .second, .val (.int (p3 &&& (3 : Int32))), .val (.int (((p3.toUInt32 >>> ((2 : Int32) &&& 31).toUInt32).toInt32) &&& (3 : Int32))), .unset, .unset, .unset, .unset, .unset, .unset, .unset, .unset, .unset, .unset, .unset, .unset, .unset, .unset, .unset, .unset]) rfl ?_
  refine XS.dload X0.here hx rfl (hb hby at_29) rfl ?_
  refine XS.iload X0.here hx rfl (hb hby at_31) rfl ?_
  refine XS.i2dS X0.here hx rfl (hb hby at_33) rfl (i2d_w _) ?_
  refine XS.daddS X0.here hx rfl (hb hby at_34) rfl (nn_w (dadd_w b_tu0 (own_b32 _))) (dadd_w b_tu0 (own_b32 _)) ?_
  refine XS.dstore X0.here hx rfl (hb hby at_35) rfl (l' := #[.val (.int p1), .val (.int p2), .val (.int p3), .val (.int p4), .val (.int p5), .val (.int (p1 &&& (3 : Int32))), .val (dV tu0), .second, .val (.int (p3 &&& (3 : Int32))), .val (.int (((p3.toUInt32 >>> ((2 : Int32) &&& 31).toUInt32).toInt32) &&& (3 : Int32))), .val (dV (tu0 + ((p3 &&& (3 : Int32))).toInt64)), .second, .unset, .unset, .unset, .unset, .unset, .unset, .unset, .unset, .unset, .unset, .unset, .unset, .unset, .unset]) rfl ?_
  exact kk
 rw [← htu1] at pre2
 have pre3 : Pr p e below I0 T0 (mkF m 45 #[.val (.int p1), .val (.int p2), .val (.int p3), .val (.int p4), .val (.int p5), .val (.int (p1 &&& (3 : Int32))), .val (dV tu0), .second, .val (.int (p3 &&& (3 : Int32))), .val (.int (((p3.toUInt32 >>> ((2 : Int32) &&& 31).toUInt32).toInt32) &&& (3 : Int32))), .val (dV tu1), .second, .val (dV (tu1 + ((((p3.toUInt32 >>> ((2 : Int32) &&& 31).toUInt32).toInt32) &&& (3 : Int32))).toInt64)), .second, .unset, .unset, .unset, .unset, .unset, .unset, .unset, .unset, .unset, .unset, .unset, .unset] []) := by
  intro tg kk
  refine pre2 tg ?_
  refine XS.dload X0.here hx rfl (hb hby at_37) rfl ?_
  refine XS.iload X0.here hx rfl (hb hby at_39) rfl ?_
  refine XS.i2dS X0.here hx rfl (hb hby at_41) rfl (i2d_w _) ?_
  refine XS.daddS X0.here hx rfl (hb hby at_42) rfl (nn_w (dadd_w b_tu1 (own_b32 _))) (dadd_w b_tu1 (own_b32 _)) ?_
  refine XS.dstore X0.here hx rfl (hb hby at_43) rfl (l' := #[.val (.int p1), .val (.int p2), .val (.int p3), .val (.int p4), .val (.int p5), .val (.int (p1 &&& (3 : Int32))), .val (dV tu0), .second, .val (.int (p3 &&& (3 : Int32))), .val (.int (((p3.toUInt32 >>> ((2 : Int32) &&& 31).toUInt32).toInt32) &&& (3 : Int32))), .val (dV tu1), .second, .val (dV (tu1 + ((((p3.toUInt32 >>> ((2 : Int32) &&& 31).toUInt32).toInt32) &&& (3 : Int32))).toInt64)), .second, .unset, .unset, .unset, .unset, .unset, .unset, .unset, .unset, .unset, .unset, .unset, .unset]) rfl ?_
  exact kk
 rw [← htu2] at pre3
 have pre4 : Pr p e below I0 T0 (mkF m 53 #[.val (.int p1), .val (.int p2), .val (.int p3), .val (.int p4), .val (.int p5), .val (.int (p1 &&& (3 : Int32))), .val (dV tu0), .second, .val (.int (p3 &&& (3 : Int32))), .val (.int (((p3.toUInt32 >>> ((2 : Int32) &&& 31).toUInt32).toInt32) &&& (3 : Int32))), .val (dV tu1), .second, .val (dV tu2), .second, .val (dV ((p4 &&& (255 : Int32))).toInt64), .second, .unset, .unset, .unset, .unset, .unset, .unset, .unset, .unset, .unset, .unset] []) := by
  intro tg kk
  refine pre3 tg ?_
  refine XS.iloadN X0.here hx rfl (hb hby at_45) rfl ?_
  refine XS.sipush X0.here hx rfl (hb hby at_46) ?_
  refine XS.iand X0.here hx rfl (hb hby at_49) rfl ?_
  refine XS.i2dS X0.here hx rfl (hb hby at_50) rfl (i2d_w _) ?_
  refine XS.dstore X0.here hx rfl (hb hby at_51) rfl (l' := #[.val (.int p1), .val (.int p2), .val (.int p3), .val (.int p4), .val (.int p5), .val (.int (p1 &&& (3 : Int32))), .val (dV tu0), .second, .val (.int (p3 &&& (3 : Int32))), .val (.int (((p3.toUInt32 >>> ((2 : Int32) &&& 31).toUInt32).toInt32) &&& (3 : Int32))), .val (dV tu1), .second, .val (dV tu2), .second, .val (dV ((p4 &&& (255 : Int32))).toInt64), .second, .unset, .unset, .unset, .unset, .unset, .unset, .unset, .unset, .unset, .unset]) rfl ?_
  exact kk
 rw [← hvu0] at pre4
 have pre5 : Pr p e below I0 T0 (mkF m 64 #[.val (.int p1), .val (.int p2), .val (.int p3), .val (.int p4), .val (.int p5), .val (.int (p1 &&& (3 : Int32))), .val (dV tu0), .second, .val (.int (p3 &&& (3 : Int32))), .val (.int (((p3.toUInt32 >>> ((2 : Int32) &&& 31).toUInt32).toInt32) &&& (3 : Int32))), .val (dV tu1), .second, .val (dV tu2), .second, .val (dV vu0), .second, .val (dV (vu0 + ((p5 &&& (7 : Int32))).toInt64)), .second, .unset, .unset, .unset, .unset, .unset, .unset, .unset, .unset] []) := by
  intro tg kk
  refine pre4 tg ?_
  refine XS.dload X0.here hx rfl (hb hby at_53) rfl ?_
  refine XS.iload X0.here hx rfl (hb hby at_55) rfl ?_
  refine XS.bipush X0.here hx rfl (hb hby at_57) ?_
  refine XS.iand X0.here hx rfl (hb hby at_59) rfl ?_
  refine XS.i2dS X0.here hx rfl (hb hby at_60) rfl (i2d_w _) ?_
  refine XS.daddS X0.here hx rfl (hb hby at_61) rfl (nn_w (dadd_w b_vu0 (own_b32 _))) (dadd_w b_vu0 (own_b32 _)) ?_
  refine XS.dstore X0.here hx rfl (hb hby at_62) rfl (l' := #[.val (.int p1), .val (.int p2), .val (.int p3), .val (.int p4), .val (.int p5), .val (.int (p1 &&& (3 : Int32))), .val (dV tu0), .second, .val (.int (p3 &&& (3 : Int32))), .val (.int (((p3.toUInt32 >>> ((2 : Int32) &&& 31).toUInt32).toInt32) &&& (3 : Int32))), .val (dV tu1), .second, .val (dV tu2), .second, .val (dV vu0), .second, .val (dV (vu0 + ((p5 &&& (7 : Int32))).toInt64)), .second, .unset, .unset, .unset, .unset, .unset, .unset, .unset, .unset]) rfl ?_
  exact kk
 rw [← hvu1] at pre5
 have pre6 : Pr p e below I0 T0 (mkF m 77 #[.val (.int p1), .val (.int p2), .val (.int p3), .val (.int p4), .val (.int p5), .val (.int (p1 &&& (3 : Int32))), .val (dV tu0), .second, .val (.int (p3 &&& (3 : Int32))), .val (.int (((p3.toUInt32 >>> ((2 : Int32) &&& 31).toUInt32).toInt32) &&& (3 : Int32))), .val (dV tu1), .second, .val (dV tu2), .second, .val (dV vu0), .second, .val (dV vu1), .second, .val (dV (vu1 + ((((p5.toUInt32 >>> ((3 : Int32) &&& 31).toUInt32).toInt32) &&& (7 : Int32))).toInt64)), .second, .unset, .unset, .unset, .unset, .unset, .unset] []) := by
  intro tg kk
  refine pre5 tg ?_
  refine XS.dload X0.here hx rfl (hb hby at_64) rfl ?_
  refine XS.iload X0.here hx rfl (hb hby at_66) rfl ?_
  refine XS.iconst X0.here hx rfl (hb hby at_68) ?_
  refine XS.iushr X0.here hx rfl (hb hby at_69) rfl ?_
  refine XS.bipush X0.here hx rfl (hb hby at_70) ?_
  refine XS.iand X0.here hx rfl (hb hby at_72) rfl ?_
  refine XS.i2dS X0.here hx rfl (hb hby at_73) rfl (i2d_w _) ?_
  refine XS.daddS X0.here hx rfl (hb hby at_74) rfl (nn_w (dadd_w b_vu1 (own_b32 _))) (dadd_w b_vu1 (own_b32 _)) ?_
  refine XS.dstore X0.here hx rfl (hb hby at_75) rfl (l' := #[.val (.int p1), .val (.int p2), .val (.int p3), .val (.int p4), .val (.int p5), .val (.int (p1 &&& (3 : Int32))), .val (dV tu0), .second, .val (.int (p3 &&& (3 : Int32))), .val (.int (((p3.toUInt32 >>> ((2 : Int32) &&& 31).toUInt32).toInt32) &&& (3 : Int32))), .val (dV tu1), .second, .val (dV tu2), .second, .val (dV vu0), .second, .val (dV vu1), .second, .val (dV (vu1 + ((((p5.toUInt32 >>> ((3 : Int32) &&& 31).toUInt32).toInt32) &&& (7 : Int32))).toInt64)), .second, .unset, .unset, .unset, .unset, .unset, .unset]) rfl ?_
  exact kk
 rw [← hvu2] at pre6
 obtain ⟨T7, h7, k7, X7, e7, E7, A7, Ex7, st7⟩ := newPE X0 hx hZ (aty := .double) (tw0 hw) e0 (g := (mkF m 79 (LA p1 p2 p3 p4 p5 (.val (.int (p1 &&& (3 : Int32)))) tu0 tu1 tu2 vu0 vu1 vu2 .unset .unset .unset .unset .unset .unset) [(.int (6 : Int32))])) rfl (hb hby at_79) rfl (by decide) (cap := 6) (by decide) (by decide) (by decide) (by decide) (ad := "[D") (by decide +kernel)
 obtain ⟨b7, g7⟩ : ∃ z, z = hs.size := ⟨_, rfl⟩
 rw [← g7] at A7 Ex7 st7
 have gn_b7 := own_le Z0 g7
 have sz_b7 := own_le KC0.1 g7
 replace EN := EN.ext E7
 have Zs8 := Nat.le_trans Z0 E7.1
 have KC8 := KC0.ext E7
 have V_b7 : Arv Z h7 b7 k7 .double (6 : Int32) [dZ, dZ, dZ, dZ, dZ, dZ] dZ := (Arv.newD A7 (by decide)).pad (pad_rep [] dZ 6)
 have pre9 : Pr p e below I0 T7 (mkF m 83 (LA p1 p2 p3 p4 p5 (.val (.int (p1 &&& (3 : Int32)))) tu0 tu1 tu2 vu0 vu1 vu2 .unset .unset (.val (.ref b7)) .unset .unset .unset) []) := by
  intro tg kk
  refine pre6 tg ?_
  refine XS.bipush X0.here hx rfl (hb hby at_77) ?_
  refine st7 _ ?_
  refine XS.astore X7.here hx rfl (hb hby at_81) rfl rfl (l' := (LA p1 p2 p3 p4 p5 (.val (.int (p1 &&& (3 : Int32)))) tu0 tu1 tu2 vu0 vu1 vu2 .unset .unset (.val (.ref b7)) .unset .unset .unset)) rfl ?_
  exact kk
 exact ⟨T7, _, h7, b7, k7, X7, N0, e7, Zs8, KC8, EN, V_b7, gn_b7, sz_b7, pre9⟩
set_option maxRecDepth 65536 in
set_option maxHeartbeats 40000000 in
theorem sM2 {p : Program} {l : Launch} {e : Env} {s : State} {m : MethodId} {below : List Frame} {meth : Method} {c : Code} {T0 : State} {lo0 : List Loc} {Z : State} {a0 : Array Value} (hw : HW a0 Z) (hx : p.tables.exec = Jvm.exec) (hby : c.code = code) (hml : c.maxLocals = 26) (hZ : Z.Warmed39 s.vm) (hown : s.vm.findClass "com/example/narrow_bound/narrowbound/witness/CumulativeFunctionLevelsPinLaw" = some m.cls) (hnm : meth.name = "law") (p1 : Int32) (p2 : Int32) (p3 : Int32) (p4 : Int32) (p5 : Int32) (tu0 : Int64) (tu1 : Int64) (tu2 : Int64) (vu0 : Int64) (vu1 : Int64) (vu2 : Int64) (ea : Addr) (ea_k : ClassId) (kB : Nat) (aE : Addr) (kE : ClassId) (aC : Addr) (kC : ClassId) (lC : List Value) (i0 : Addr) (i1 : Addr) (i2 : Addr) {h0 hs : Heap} {n0 : Nat} (X0 : Stand p l e room_1 s m #[(.int p1), (.int p2), (.int p3), (.int p4), (.int p5)] below meth c T0 lo0 1 6) (N0 : Fr n0 lo0) (e0 : T0.heap = hs) (Z0 : n0 ≤ hs.size) (KC0 : Keep h0 hs []) (V_ea : Arv Z hs ea ea_k .double (6 : Int32) [dZ, dZ, dZ, dZ, dZ, dZ] dZ) (EN : EnvJ Z kB hs aE kE aC kC lC i0 i1 i2) (hkB : kB ≤ h0.size) :
    ∃ (T1 : State) (lo1 : List Loc) (h1 : Heap) (ts : Addr) (ts_k : ClassId) (vs : Addr) (vs_k : ClassId), Stand p l e room_1 s m #[(.int p1), (.int p2), (.int p3), (.int p4), (.int p5)] below meth c T1 lo1 3 10 ∧ Fr n0 lo1 ∧ T1.heap = h1 ∧ n0 ≤ h1.size ∧ Keep h0 h1 [] ∧ EnvJ Z kB h1 aE kE aC kC lC i0 i1 i2 ∧ Arv Z h1 ea ea_k .double (6 : Int32) [dZ, dZ, dZ, dZ, dZ, dZ] dZ ∧ Arv Z h1 ts ts_k .double (2 : Int32) [(dV tu0), (dV tu1)] dZ ∧ Exa Z h1 ts "[D" ∧ Arv Z h1 vs vs_k .double (2 : Int32) [(dV vu0), (dV vu1)] dZ ∧ Exa Z h1 vs "[D" ∧ n0 ≤ ts ∧ h0.size ≤ ts ∧ n0 ≤ vs ∧ h0.size ≤ vs ∧ ea ≠ ts ∧ ea ≠ vs ∧ Pr p e below (T0.setTop (mkF m 83 (LA p1 p2 p3 p4 p5 (.val (.int (2 : Int32))) tu0 tu1 tu2 vu0 vu1 vu2 .unset .unset (.val (.ref ea)) .unset .unset .unset) [])) T1 (mkF m 178 (LA p1 p2 p3 p4 p5 (.val (.int (2 : Int32))) tu0 tu1 tu2 vu0 vu1 vu2 (.val (.ref ts)) (.val (.ref vs)) (.val (.ref ea)) .unset .unset .unset) []) := by
 have pre0 : Pr p e below (T0.setTop (mkF m 83 (LA p1 p2 p3 p4 p5 (.val (.int (2 : Int32))) tu0 tu1 tu2 vu0 vu1 vu2 .unset .unset (.val (.ref ea)) .unset .unset .unset) [])) T0 (mkF m 83 (LA p1 p2 p3 p4 p5 (.val (.int (2 : Int32))) tu0 tu1 tu2 vu0 vu1 vu2 .unset .unset (.val (.ref ea)) .unset .unset .unset) []) := fun _ kk => kk
 generalize hI : T0.setTop (mkF m 83 (LA p1 p2 p3 p4 p5 (.val (.int (2 : Int32))) tu0 tu1 tu2 vu0 vu1 vu2 .unset .unset (.val (.ref ea)) .unset .unset .unset) []) = I0 at pre0 ⊢
 obtain ⟨T12, lo12, Hc12, b1, b9, k1, k9, X12, N12, e12, Zs12, KC12, V_ea_c12, EN_c12, E_b1_c12, Vq7_c12, V_b9_c12, E_b9_c12, gnc12_0, gnc12_1, szc12_0, szc12_1, nesc12_0, nesc12_1, nesc12_2, pre12⟩ : ∃ (T12 : State) (lo12 : List Loc) (Hc12 : Heap) (b1 : Addr) (b9 : Addr) (k1 : ClassId) (k9 : ClassId), Stand p l e room_1 s m #[(.int p1), (.int p2), (.int p3), (.int p4), (.int p5)] below meth c T12 lo12 3 10 ∧ Fr n0 lo12 ∧ T12.heap = Hc12 ∧ n0 ≤ Hc12.size ∧ Keep h0 Hc12 [] ∧ Arv Z Hc12 ea ea_k .double (6 : Int32) [dZ, dZ, dZ, dZ, dZ, dZ] dZ ∧ EnvJ Z kB Hc12 aE kE aC kC lC i0 i1 i2 ∧ Exa Z Hc12 b1 "[D" ∧ Arv Z Hc12 b1 k1 .double (2 : Int32) [(dV tu0), (dV tu1)] dZ ∧ Arv Z Hc12 b9 k9 .double (2 : Int32) [dZ, dZ] dZ ∧ Exa Z Hc12 b9 "[D" ∧ n0 ≤ b1 ∧ n0 ≤ b9 ∧ h0.size ≤ b1 ∧ h0.size ≤ b9 ∧ ea ≠ b1 ∧ ea ≠ b9 ∧ b1 ≠ b9 ∧ Pr p e below I0 T12 (mkF m 166 (LA p1 p2 p3 p4 p5 (.val (.int (2 : Int32))) tu0 tu1 tu2 vu0 vu1 vu2 (.val (.ref b1)) .unset (.val (.ref ea)) .unset .unset .unset) [(.ref b9)]) := by
  obtain ⟨T1, h1, k1, X1, e1, E1, A1, Ex1, st1⟩ := newPE X0 hx hZ (aty := .double) (tw0 hw) e0 (g := (mkF m 149 (LA p1 p2 p3 p4 p5 (.val (.int (2 : Int32))) tu0 tu1 tu2 vu0 vu1 vu2 .unset .unset (.val (.ref ea)) .unset .unset .unset) [(.int (2 : Int32))])) rfl (hb hby at_149) rfl (by decide) (cap := 2) (by decide) (by decide) (by decide) (by decide) (ad := "[D") (by decide +kernel)
  obtain ⟨b1, g1⟩ : ∃ z, z = hs.size := ⟨_, rfl⟩
  rw [← g1] at A1 Ex1 st1
  have ne_ea_b1 := own_ne V_ea.lt g1
  have gn_b1 := own_le Z0 g1
  have sz_b1 := own_le KC0.1 g1
  replace V_ea := V_ea.ext E1
  replace EN := EN.ext E1
  have Zs2 := Nat.le_trans Z0 E1.1
  have KC2 := KC0.ext E1
  have V_b1 : Arv Z h1 b1 k1 .double (2 : Int32) [dZ, dZ] dZ := (Arv.newD A1 (by decide)).pad (pad_rep [] dZ 2)
  have E_b1 : Exa Z h1 b1 "[D" := Ex1
  obtain ⟨cl3, Ar3, aq3, aS3, aN3, aH3, aG3⟩ := id V_b1
  have hin4 : ¬ ((0 : Int32) < 0 ∨ cl3.slots.size ≤ ((0 : Int32)).toNatClampNeg) := inb_of aS3 ⟨by decide, by decide⟩
  obtain ⟨T4, h4, X4, e4, W4, st4⟩ := stD X1 hx hZ e1 Ar3 (j := (0 : Int32)) hin4 (g := (mkF m 155 (LA p1 p2 p3 p4 p5 (.val (.int (2 : Int32))) tu0 tu1 tu2 vu0 vu1 vu2 .unset .unset (.val (.ref ea)) .unset .unset .unset) [(dV tu0), (.int (0 : Int32)), (.ref b1), (.ref b1)])) rfl rfl (hb hby at_155)
  have N4 := Fr.snoc X4 N0 gn_b1
  have Vq4 : Arv Z h4 b1 k1 .double (2 : Int32) [(dV tu0), dZ] dZ := Arv.set Ar3 aq3 aS3 aN3 aH3 aG3 rfl W4 0 rfl (Nat.le_of_ble_eq_true rfl)
  replace V_ea := V_ea.other W4 ne_ea_b1
  replace EN := EN.wr W4 (Nat.le_trans hkB sz_b1)
  replace E_b1 := E_b1.wr W4
  have Zs5 := Nat.le_trans Zs2 (Keep.of_wr W4).1
  have KC5 := KC2.wr W4 (Or.inr sz_b1)
  obtain ⟨cl6, Ar6, aq6, aS6, aN6, aH6, aG6⟩ := id Vq4
  have hin7 : ¬ ((1 : Int32) < 0 ∨ cl6.slots.size ≤ ((1 : Int32)).toNatClampNeg) := inb_of aS6 ⟨by decide, by decide⟩
  obtain ⟨T7, h7, X7, e7, W7, st7⟩ := stD X4 hx hZ e4 Ar6 (j := (1 : Int32)) hin7 (g := (mkF m 160 (LA p1 p2 p3 p4 p5 (.val (.int (2 : Int32))) tu0 tu1 tu2 vu0 vu1 vu2 .unset .unset (.val (.ref ea)) .unset .unset .unset) [(dV tu1), (.int (1 : Int32)), (.ref b1), (.ref b1)])) rfl rfl (hb hby at_160)
  have N7 := Fr.snoc X7 N4 gn_b1
  have Vq7 : Arv Z h7 b1 k1 .double (2 : Int32) [(dV tu0), (dV tu1)] dZ := Arv.set Ar6 aq6 aS6 aN6 aH6 aG6 rfl W7 1 rfl (Nat.le_of_ble_eq_true rfl)
  replace V_ea := V_ea.other W7 ne_ea_b1
  replace EN := EN.wr W7 (Nat.le_trans hkB sz_b1)
  replace E_b1 := E_b1.wr W7
  have Zs8 := Nat.le_trans Zs5 (Keep.of_wr W7).1
  have KC8 := KC5.wr W7 (Or.inr sz_b1)
  obtain ⟨T9, h9, k9, X9, e9, E9, A9, Ex9, st9⟩ := newPE X7 hx hZ (aty := .double) (tw0 hw) e7 (g := (mkF m 164 (LA p1 p2 p3 p4 p5 (.val (.int (2 : Int32))) tu0 tu1 tu2 vu0 vu1 vu2 (.val (.ref b1)) .unset (.val (.ref ea)) .unset .unset .unset) [(.int (2 : Int32))])) rfl (hb hby at_164) rfl (by decide) (cap := 2) (by decide) (by decide) (by decide) (by decide) (ad := "[D") (by decide +kernel)
  obtain ⟨b9, g9⟩ : ∃ z, z = h7.size := ⟨_, rfl⟩
  rw [← g9] at A9 Ex9 st9
  have ne_ea_b9 := own_ne V_ea.lt g9
  have ne_b1_b9 := own_ne E_b1.lt g9
  have gn_b9 := own_le Zs8 g9
  have sz_b9 := own_le KC8.1 g9
  replace V_ea := V_ea.ext E9
  replace EN := EN.ext E9
  replace E_b1 := E_b1.ext E9
  replace Vq7 := Vq7.ext E9
  have Zs10 := Nat.le_trans Zs8 E9.1
  have KC10 := KC8.ext E9
  have V_b9 : Arv Z h9 b9 k9 .double (2 : Int32) [dZ, dZ] dZ := (Arv.newD A9 (by decide)).pad (pad_rep [] dZ 2)
  have E_b9 : Exa Z h9 b9 "[D" := Ex9
  have pre11 : Pr p e below I0 T9 (mkF m 166 (LA p1 p2 p3 p4 p5 (.val (.int (2 : Int32))) tu0 tu1 tu2 vu0 vu1 vu2 (.val (.ref b1)) .unset (.val (.ref ea)) .unset .unset .unset) [(.ref b9)]) := by
   intro tg kk
   refine pre0 tg ?_
   refine XS.iload X0.here hx rfl (hb hby at_83) rfl ?_
   refine XS.ifYes X0.here hx rfl (pc0 := 85) (pc' := 104) rfl (hb hby at_85) rfl (XT.i0_ne_t (by decide)) (by decide) (by decide) ?_
   refine XS.iload X0.here hx rfl (hb hby at_104) rfl ?_
   refine XS.iconst X0.here hx rfl (hb hby at_106) ?_
   refine XS.icmpYes X0.here hx rfl (pc0 := 107) (pc' := 142) rfl (hb hby at_107) rfl (XT.ii_ne_t (by decide)) (by decide) (by decide) ?_
   refine XS.iload X0.here hx rfl (hb hby at_142) rfl ?_
   refine XS.iconst X0.here hx rfl (hb hby at_144) ?_
   refine XS.icmpNo X0.here hx rfl (hb hby at_145) rfl (XT.ii_ne_f (by decide)) ?_
   refine XS.iconst X0.here hx rfl (hb hby at_148) ?_
   refine st1 _ ?_
   refine XS.dup X1.here hx rfl (hb hby at_151) rfl rfl ?_
   refine XS.iconst X1.here hx rfl (hb hby at_152) ?_
   refine XS.dload X1.here hx rfl (hb hby at_153) rfl ?_
   refine st4 _ ?_
   refine XS.dup X4.here hx rfl (hb hby at_156) rfl rfl ?_
   refine XS.iconst X4.here hx rfl (hb hby at_157) ?_
   refine XS.dload X4.here hx rfl (hb hby at_158) rfl ?_
   refine st7 _ ?_
   refine XS.astore X7.here hx rfl (hb hby at_161) rfl rfl (l' := (LA p1 p2 p3 p4 p5 (.val (.int (2 : Int32))) tu0 tu1 tu2 vu0 vu1 vu2 (.val (.ref b1)) .unset (.val (.ref ea)) .unset .unset .unset)) rfl ?_
   refine XS.iconst X7.here hx rfl (hb hby at_163) ?_
   refine st9 _ ?_
   exact kk
  exact ⟨T9, _, h9, b1, b9, k1, k9, X9, N7, e9, Zs10, KC10, V_ea, EN, E_b1, Vq7, V_b9, E_b9, gn_b1, gn_b9, sz_b1, sz_b9, ne_ea_b1, ne_ea_b9, ne_b1_b9, pre11⟩
 clear pre0 X0 N0 e0 KC0 Z0 V_ea EN
 obtain ⟨cl13, Ar13, aq13, aS13, aN13, aH13, aG13⟩ := id V_b9_c12
 have hin14 : ¬ ((0 : Int32) < 0 ∨ cl13.slots.size ≤ ((0 : Int32)).toNatClampNeg) := inb_of aS13 ⟨by decide, by decide⟩
 obtain ⟨T14, h14, X14, e14, W14, st14⟩ := stD X12 hx hZ e12 Ar13 (j := (0 : Int32)) hin14 (g := (mkF m 170 (LA p1 p2 p3 p4 p5 (.val (.int (2 : Int32))) tu0 tu1 tu2 vu0 vu1 vu2 (.val (.ref b1)) .unset (.val (.ref ea)) .unset .unset .unset) [(dV vu0), (.int (0 : Int32)), (.ref b9), (.ref b9)])) rfl rfl (hb hby at_170)
 have N14 := Fr.snoc X14 N12 gnc12_1
 have Vq14 : Arv Z h14 b9 k9 .double (2 : Int32) [(dV vu0), dZ] dZ := Arv.set Ar13 aq13 aS13 aN13 aH13 aG13 rfl W14 0 rfl (Nat.le_of_ble_eq_true rfl)
 replace V_ea_c12 := V_ea_c12.other W14 nesc12_1
 replace EN_c12 := EN_c12.wr W14 (Nat.le_trans hkB szc12_1)
 replace E_b1_c12 := E_b1_c12.wr W14
 replace Vq7_c12 := Vq7_c12.other W14 nesc12_2
 replace E_b9_c12 := E_b9_c12.wr W14
 have Zs15 := Nat.le_trans Zs12 (Keep.of_wr W14).1
 have KC15 := KC12.wr W14 (Or.inr szc12_1)
 obtain ⟨cl16, Ar16, aq16, aS16, aN16, aH16, aG16⟩ := id Vq14
 have hin17 : ¬ ((1 : Int32) < 0 ∨ cl16.slots.size ≤ ((1 : Int32)).toNatClampNeg) := inb_of aS16 ⟨by decide, by decide⟩
 obtain ⟨T17, h17, X17, e17, W17, st17⟩ := stD X14 hx hZ e14 Ar16 (j := (1 : Int32)) hin17 (g := (mkF m 175 (LA p1 p2 p3 p4 p5 (.val (.int (2 : Int32))) tu0 tu1 tu2 vu0 vu1 vu2 (.val (.ref b1)) .unset (.val (.ref ea)) .unset .unset .unset) [(dV vu1), (.int (1 : Int32)), (.ref b9), (.ref b9)])) rfl rfl (hb hby at_175)
 have N17 := Fr.snoc X17 N14 gnc12_1
 have Vq17 : Arv Z h17 b9 k9 .double (2 : Int32) [(dV vu0), (dV vu1)] dZ := Arv.set Ar16 aq16 aS16 aN16 aH16 aG16 rfl W17 1 rfl (Nat.le_of_ble_eq_true rfl)
 replace V_ea_c12 := V_ea_c12.other W17 nesc12_1
 replace EN_c12 := EN_c12.wr W17 (Nat.le_trans hkB szc12_1)
 replace E_b1_c12 := E_b1_c12.wr W17
 replace Vq7_c12 := Vq7_c12.other W17 nesc12_2
 replace E_b9_c12 := E_b9_c12.wr W17
 have Zs18 := Nat.le_trans Zs15 (Keep.of_wr W17).1
 have KC18 := KC15.wr W17 (Or.inr szc12_1)
 have pre19 : Pr p e below I0 T17 (mkF m 178 (LA p1 p2 p3 p4 p5 (.val (.int (2 : Int32))) tu0 tu1 tu2 vu0 vu1 vu2 (.val (.ref b1)) (.val (.ref b9)) (.val (.ref ea)) .unset .unset .unset) []) := by
  intro tg kk
  refine pre12 tg ?_
  refine XS.dup X12.here hx rfl (hb hby at_166) rfl rfl ?_
  refine XS.iconst X12.here hx rfl (hb hby at_167) ?_
  refine XS.dload X12.here hx rfl (hb hby at_168) rfl ?_
  refine st14 _ ?_
  refine XS.dup X14.here hx rfl (hb hby at_171) rfl rfl ?_
  refine XS.iconst X14.here hx rfl (hb hby at_172) ?_
  refine XS.dload X14.here hx rfl (hb hby at_173) rfl ?_
  refine st17 _ ?_
  refine XS.astore X17.here hx rfl (hb hby at_176) rfl rfl (l' := (LA p1 p2 p3 p4 p5 (.val (.int (2 : Int32))) tu0 tu1 tu2 vu0 vu1 vu2 (.val (.ref b1)) (.val (.ref b9)) (.val (.ref ea)) .unset .unset .unset)) rfl ?_
  exact kk
 exact ⟨T17, _, h17, b1, k1, b9, k9, X17, N17, e17, Zs18, KC18, EN_c12, V_ea_c12, Vq7_c12, E_b1_c12, Vq17, E_b9_c12, gnc12_0, szc12_0, gnc12_1, szc12_1, nesc12_0, nesc12_1, pre19⟩
set_option maxRecDepth 65536 in
set_option maxHeartbeats 40000000 in
theorem sM3 {p : Program} {l : Launch} {e : Env} {s : State} {m : MethodId} {below : List Frame} {meth : Method} {c : Code} {T0 : State} {lo0 : List Loc} {Z : State} {a0 : Array Value} (hw : HW a0 Z) (hx : p.tables.exec = Jvm.exec) (hby : c.code = code) (hml : c.maxLocals = 26) (hZ : Z.Warmed39 s.vm) (hown : s.vm.findClass "com/example/narrow_bound/narrowbound/witness/CumulativeFunctionLevelsPinLaw" = some m.cls) (hnm : meth.name = "law") (p1 : Int32) (p2 : Int32) (p3 : Int32) (p4 : Int32) (p5 : Int32) (tu0 : Int64) (tu1 : Int64) (tu2 : Int64) (vu0 : Int64) (vu1 : Int64) (vu2 : Int64) (ea : Addr) (ea_k : ClassId) (kB : Nat) (aE : Addr) (kE : ClassId) (aC : Addr) (kC : ClassId) (lC : List Value) (i0 : Addr) (i1 : Addr) (i2 : Addr) {h0 hs : Heap} {n0 : Nat} (X0 : Stand p l e room_1 s m #[(.int p1), (.int p2), (.int p3), (.int p4), (.int p5)] below meth c T0 lo0 1 6) (N0 : Fr n0 lo0) (e0 : T0.heap = hs) (Z0 : n0 ≤ hs.size) (KC0 : Keep h0 hs []) (V_ea : Arv Z hs ea ea_k .double (6 : Int32) [dZ, dZ, dZ, dZ, dZ, dZ] dZ) (EN : EnvJ Z kB hs aE kE aC kC lC i0 i1 i2) (hkB : kB ≤ h0.size) :
    ∃ (T1 : State) (lo1 : List Loc) (h1 : Heap) (ts : Addr) (ts_k : ClassId) (vs : Addr) (vs_k : ClassId), Stand p l e room_1 s m #[(.int p1), (.int p2), (.int p3), (.int p4), (.int p5)] below meth c T1 lo1 3 12 ∧ Fr n0 lo1 ∧ T1.heap = h1 ∧ n0 ≤ h1.size ∧ Keep h0 h1 [] ∧ EnvJ Z kB h1 aE kE aC kC lC i0 i1 i2 ∧ Arv Z h1 ea ea_k .double (6 : Int32) [dZ, dZ, dZ, dZ, dZ, dZ] dZ ∧ Arv Z h1 ts ts_k .double (3 : Int32) [(dV tu0), (dV tu1), (dV tu2)] dZ ∧ Exa Z h1 ts "[D" ∧ Arv Z h1 vs vs_k .double (3 : Int32) [(dV vu0), (dV vu1), (dV vu2)] dZ ∧ Exa Z h1 vs "[D" ∧ n0 ≤ ts ∧ h0.size ≤ ts ∧ n0 ≤ vs ∧ h0.size ≤ vs ∧ ea ≠ ts ∧ ea ≠ vs ∧ Pr p e below (T0.setTop (mkF m 83 (LA p1 p2 p3 p4 p5 (.val (.int (3 : Int32))) tu0 tu1 tu2 vu0 vu1 vu2 .unset .unset (.val (.ref ea)) .unset .unset .unset) [])) T1 (mkF m 259 (LA p1 p2 p3 p4 p5 (.val (.int (3 : Int32))) tu0 tu1 tu2 vu0 vu1 vu2 (.val (.ref ts)) (.val (.ref vs)) (.val (.ref ea)) .unset .unset .unset) []) := by
 have pre0 : Pr p e below (T0.setTop (mkF m 83 (LA p1 p2 p3 p4 p5 (.val (.int (3 : Int32))) tu0 tu1 tu2 vu0 vu1 vu2 .unset .unset (.val (.ref ea)) .unset .unset .unset) [])) T0 (mkF m 83 (LA p1 p2 p3 p4 p5 (.val (.int (3 : Int32))) tu0 tu1 tu2 vu0 vu1 vu2 .unset .unset (.val (.ref ea)) .unset .unset .unset) []) := fun _ kk => kk
 generalize hI : T0.setTop (mkF m 83 (LA p1 p2 p3 p4 p5 (.val (.int (3 : Int32))) tu0 tu1 tu2 vu0 vu1 vu2 .unset .unset (.val (.ref ea)) .unset .unset .unset) []) = I0 at pre0 ⊢
 obtain ⟨T13, lo13, Hc13, b1, k1, X13, N13, e13, Zs13, KC13, V_ea_c13, EN_c13, E_b1_c13, Vq10_c13, gnc13_0, szc13_0, nesc13_0, pre13⟩ : ∃ (T13 : State) (lo13 : List Loc) (Hc13 : Heap) (b1 : Addr) (k1 : ClassId), Stand p l e room_1 s m #[(.int p1), (.int p2), (.int p3), (.int p4), (.int p5)] below meth c T13 lo13 2 9 ∧ Fr n0 lo13 ∧ T13.heap = Hc13 ∧ n0 ≤ Hc13.size ∧ Keep h0 Hc13 [] ∧ Arv Z Hc13 ea ea_k .double (6 : Int32) [dZ, dZ, dZ, dZ, dZ, dZ] dZ ∧ EnvJ Z kB Hc13 aE kE aC kC lC i0 i1 i2 ∧ Exa Z Hc13 b1 "[D" ∧ Arv Z Hc13 b1 k1 .double (3 : Int32) [(dV tu0), (dV tu1), (dV tu2)] dZ ∧ n0 ≤ b1 ∧ h0.size ≤ b1 ∧ ea ≠ b1 ∧ Pr p e below I0 T13 (mkF m 237 (LA p1 p2 p3 p4 p5 (.val (.int (3 : Int32))) tu0 tu1 tu2 vu0 vu1 vu2 .unset .unset (.val (.ref ea)) .unset .unset .unset) [(.ref b1)]) := by
  obtain ⟨T1, h1, k1, X1, e1, E1, A1, Ex1, st1⟩ := newPE X0 hx hZ (aty := .double) (tw0 hw) e0 (g := (mkF m 220 (LA p1 p2 p3 p4 p5 (.val (.int (3 : Int32))) tu0 tu1 tu2 vu0 vu1 vu2 .unset .unset (.val (.ref ea)) .unset .unset .unset) [(.int (3 : Int32))])) rfl (hb hby at_220) rfl (by decide) (cap := 3) (by decide) (by decide) (by decide) (by decide) (ad := "[D") (by decide +kernel)
  obtain ⟨b1, g1⟩ : ∃ z, z = hs.size := ⟨_, rfl⟩
  rw [← g1] at A1 Ex1 st1
  have ne_ea_b1 := own_ne V_ea.lt g1
  have gn_b1 := own_le Z0 g1
  have sz_b1 := own_le KC0.1 g1
  replace V_ea := V_ea.ext E1
  replace EN := EN.ext E1
  have Zs2 := Nat.le_trans Z0 E1.1
  have KC2 := KC0.ext E1
  have V_b1 : Arv Z h1 b1 k1 .double (3 : Int32) [dZ, dZ, dZ] dZ := (Arv.newD A1 (by decide)).pad (pad_rep [] dZ 3)
  have E_b1 : Exa Z h1 b1 "[D" := Ex1
  obtain ⟨cl3, Ar3, aq3, aS3, aN3, aH3, aG3⟩ := id V_b1
  have hin4 : ¬ ((0 : Int32) < 0 ∨ cl3.slots.size ≤ ((0 : Int32)).toNatClampNeg) := inb_of aS3 ⟨by decide, by decide⟩
  obtain ⟨T4, h4, X4, e4, W4, st4⟩ := stD X1 hx hZ e1 Ar3 (j := (0 : Int32)) hin4 (g := (mkF m 226 (LA p1 p2 p3 p4 p5 (.val (.int (3 : Int32))) tu0 tu1 tu2 vu0 vu1 vu2 .unset .unset (.val (.ref ea)) .unset .unset .unset) [(dV tu0), (.int (0 : Int32)), (.ref b1), (.ref b1)])) rfl rfl (hb hby at_226)
  have N4 := Fr.snoc X4 N0 gn_b1
  have Vq4 : Arv Z h4 b1 k1 .double (3 : Int32) [(dV tu0), dZ, dZ] dZ := Arv.set Ar3 aq3 aS3 aN3 aH3 aG3 rfl W4 0 rfl (Nat.le_of_ble_eq_true rfl)
  replace V_ea := V_ea.other W4 ne_ea_b1
  replace EN := EN.wr W4 (Nat.le_trans hkB sz_b1)
  replace E_b1 := E_b1.wr W4
  have Zs5 := Nat.le_trans Zs2 (Keep.of_wr W4).1
  have KC5 := KC2.wr W4 (Or.inr sz_b1)
  obtain ⟨cl6, Ar6, aq6, aS6, aN6, aH6, aG6⟩ := id Vq4
  have hin7 : ¬ ((1 : Int32) < 0 ∨ cl6.slots.size ≤ ((1 : Int32)).toNatClampNeg) := inb_of aS6 ⟨by decide, by decide⟩
  obtain ⟨T7, h7, X7, e7, W7, st7⟩ := stD X4 hx hZ e4 Ar6 (j := (1 : Int32)) hin7 (g := (mkF m 231 (LA p1 p2 p3 p4 p5 (.val (.int (3 : Int32))) tu0 tu1 tu2 vu0 vu1 vu2 .unset .unset (.val (.ref ea)) .unset .unset .unset) [(dV tu1), (.int (1 : Int32)), (.ref b1), (.ref b1)])) rfl rfl (hb hby at_231)
  have N7 := Fr.snoc X7 N4 gn_b1
  have Vq7 : Arv Z h7 b1 k1 .double (3 : Int32) [(dV tu0), (dV tu1), dZ] dZ := Arv.set Ar6 aq6 aS6 aN6 aH6 aG6 rfl W7 1 rfl (Nat.le_of_ble_eq_true rfl)
  replace V_ea := V_ea.other W7 ne_ea_b1
  replace EN := EN.wr W7 (Nat.le_trans hkB sz_b1)
  replace E_b1 := E_b1.wr W7
  have Zs8 := Nat.le_trans Zs5 (Keep.of_wr W7).1
  have KC8 := KC5.wr W7 (Or.inr sz_b1)
  obtain ⟨cl9, Ar9, aq9, aS9, aN9, aH9, aG9⟩ := id Vq7
  have hin10 : ¬ ((2 : Int32) < 0 ∨ cl9.slots.size ≤ ((2 : Int32)).toNatClampNeg) := inb_of aS9 ⟨by decide, by decide⟩
  obtain ⟨T10, h10, X10, e10, W10, st10⟩ := stD X7 hx hZ e7 Ar9 (j := (2 : Int32)) hin10 (g := (mkF m 236 (LA p1 p2 p3 p4 p5 (.val (.int (3 : Int32))) tu0 tu1 tu2 vu0 vu1 vu2 .unset .unset (.val (.ref ea)) .unset .unset .unset) [(dV tu2), (.int (2 : Int32)), (.ref b1), (.ref b1)])) rfl rfl (hb hby at_236)
  have N10 := Fr.snoc X10 N7 gn_b1
  have Vq10 : Arv Z h10 b1 k1 .double (3 : Int32) [(dV tu0), (dV tu1), (dV tu2)] dZ := Arv.set Ar9 aq9 aS9 aN9 aH9 aG9 rfl W10 2 rfl (Nat.le_of_ble_eq_true rfl)
  replace V_ea := V_ea.other W10 ne_ea_b1
  replace EN := EN.wr W10 (Nat.le_trans hkB sz_b1)
  replace E_b1 := E_b1.wr W10
  have Zs11 := Nat.le_trans Zs8 (Keep.of_wr W10).1
  have KC11 := KC8.wr W10 (Or.inr sz_b1)
  have pre12 : Pr p e below I0 T10 (mkF m 237 (LA p1 p2 p3 p4 p5 (.val (.int (3 : Int32))) tu0 tu1 tu2 vu0 vu1 vu2 .unset .unset (.val (.ref ea)) .unset .unset .unset) [(.ref b1)]) := by
   intro tg kk
   refine pre0 tg ?_
   refine XS.iload X0.here hx rfl (hb hby at_83) rfl ?_
   refine XS.ifYes X0.here hx rfl (pc0 := 85) (pc' := 104) rfl (hb hby at_85) rfl (XT.i0_ne_t (by decide)) (by decide) (by decide) ?_
   refine XS.iload X0.here hx rfl (hb hby at_104) rfl ?_
   refine XS.iconst X0.here hx rfl (hb hby at_106) ?_
   refine XS.icmpYes X0.here hx rfl (pc0 := 107) (pc' := 142) rfl (hb hby at_107) rfl (XT.ii_ne_t (by decide)) (by decide) (by decide) ?_
   refine XS.iload X0.here hx rfl (hb hby at_142) rfl ?_
   refine XS.iconst X0.here hx rfl (hb hby at_144) ?_
   refine XS.icmpYes X0.here hx rfl (pc0 := 145) (pc' := 219) rfl (hb hby at_145) rfl (XT.ii_ne_t (by decide)) (by decide) (by decide) ?_
   refine XS.iconst X0.here hx rfl (hb hby at_219) ?_
   refine st1 _ ?_
   refine XS.dup X1.here hx rfl (hb hby at_222) rfl rfl ?_
   refine XS.iconst X1.here hx rfl (hb hby at_223) ?_
   refine XS.dload X1.here hx rfl (hb hby at_224) rfl ?_
   refine st4 _ ?_
   refine XS.dup X4.here hx rfl (hb hby at_227) rfl rfl ?_
   refine XS.iconst X4.here hx rfl (hb hby at_228) ?_
   refine XS.dload X4.here hx rfl (hb hby at_229) rfl ?_
   refine st7 _ ?_
   refine XS.dup X7.here hx rfl (hb hby at_232) rfl rfl ?_
   refine XS.iconst X7.here hx rfl (hb hby at_233) ?_
   refine XS.dload X7.here hx rfl (hb hby at_234) rfl ?_
   refine st10 _ ?_
   exact kk
  exact ⟨T10, _, h10, b1, k1, X10, N10, e10, Zs11, KC11, V_ea, EN, E_b1, Vq10, gn_b1, sz_b1, ne_ea_b1, pre12⟩
 clear pre0 X0 N0 e0 KC0 Z0 V_ea EN
 obtain ⟨T26, lo26, Hc26, b14, k14, X26, N26, e26, Zs26, KC26, V_ea_c26, EN_c26, E_b1_c26, Vq10_c26, E_b14_c26, Vq23_c26, gnc26_1, szc26_1, nesc26_1, nesc26_2, pre26⟩ : ∃ (T26 : State) (lo26 : List Loc) (Hc26 : Heap) (b14 : Addr) (k14 : ClassId), Stand p l e room_1 s m #[(.int p1), (.int p2), (.int p3), (.int p4), (.int p5)] below meth c T26 lo26 3 12 ∧ Fr n0 lo26 ∧ T26.heap = Hc26 ∧ n0 ≤ Hc26.size ∧ Keep h0 Hc26 [] ∧ Arv Z Hc26 ea ea_k .double (6 : Int32) [dZ, dZ, dZ, dZ, dZ, dZ] dZ ∧ EnvJ Z kB Hc26 aE kE aC kC lC i0 i1 i2 ∧ Exa Z Hc26 b1 "[D" ∧ Arv Z Hc26 b1 k1 .double (3 : Int32) [(dV tu0), (dV tu1), (dV tu2)] dZ ∧ Exa Z Hc26 b14 "[D" ∧ Arv Z Hc26 b14 k14 .double (3 : Int32) [(dV vu0), (dV vu1), (dV vu2)] dZ ∧ n0 ≤ b14 ∧ h0.size ≤ b14 ∧ ea ≠ b14 ∧ b1 ≠ b14 ∧ Pr p e below I0 T26 (mkF m 257 (LA p1 p2 p3 p4 p5 (.val (.int (3 : Int32))) tu0 tu1 tu2 vu0 vu1 vu2 (.val (.ref b1)) .unset (.val (.ref ea)) .unset .unset .unset) [(.ref b14)]) := by
  obtain ⟨T14, h14, k14, X14, e14, E14, A14, Ex14, st14⟩ := newPE X13 hx hZ (aty := .double) (tw0 hw) e13 (g := (mkF m 240 (LA p1 p2 p3 p4 p5 (.val (.int (3 : Int32))) tu0 tu1 tu2 vu0 vu1 vu2 (.val (.ref b1)) .unset (.val (.ref ea)) .unset .unset .unset) [(.int (3 : Int32))])) rfl (hb hby at_240) rfl (by decide) (cap := 3) (by decide) (by decide) (by decide) (by decide) (ad := "[D") (by decide +kernel)
  obtain ⟨b14, g14⟩ : ∃ z, z = Hc13.size := ⟨_, rfl⟩
  rw [← g14] at A14 Ex14 st14
  have ne_ea_b14 := own_ne V_ea_c13.lt g14
  have ne_b1_b14 := own_ne E_b1_c13.lt g14
  have gn_b14 := own_le Zs13 g14
  have sz_b14 := own_le KC13.1 g14
  replace V_ea_c13 := V_ea_c13.ext E14
  replace EN_c13 := EN_c13.ext E14
  replace E_b1_c13 := E_b1_c13.ext E14
  replace Vq10_c13 := Vq10_c13.ext E14
  have Zs15 := Nat.le_trans Zs13 E14.1
  have KC15 := KC13.ext E14
  have V_b14 : Arv Z h14 b14 k14 .double (3 : Int32) [dZ, dZ, dZ] dZ := (Arv.newD A14 (by decide)).pad (pad_rep [] dZ 3)
  have E_b14 : Exa Z h14 b14 "[D" := Ex14
  obtain ⟨cl16, Ar16, aq16, aS16, aN16, aH16, aG16⟩ := id V_b14
  have hin17 : ¬ ((0 : Int32) < 0 ∨ cl16.slots.size ≤ ((0 : Int32)).toNatClampNeg) := inb_of aS16 ⟨by decide, by decide⟩
  obtain ⟨T17, h17, X17, e17, W17, st17⟩ := stD X14 hx hZ e14 Ar16 (j := (0 : Int32)) hin17 (g := (mkF m 246 (LA p1 p2 p3 p4 p5 (.val (.int (3 : Int32))) tu0 tu1 tu2 vu0 vu1 vu2 (.val (.ref b1)) .unset (.val (.ref ea)) .unset .unset .unset) [(dV vu0), (.int (0 : Int32)), (.ref b14), (.ref b14)])) rfl rfl (hb hby at_246)
  have N17 := Fr.snoc X17 N13 gn_b14
  have Vq17 : Arv Z h17 b14 k14 .double (3 : Int32) [(dV vu0), dZ, dZ] dZ := Arv.set Ar16 aq16 aS16 aN16 aH16 aG16 rfl W17 0 rfl (Nat.le_of_ble_eq_true rfl)
  replace V_ea_c13 := V_ea_c13.other W17 ne_ea_b14
  replace EN_c13 := EN_c13.wr W17 (Nat.le_trans hkB sz_b14)
  replace E_b1_c13 := E_b1_c13.wr W17
  replace Vq10_c13 := Vq10_c13.other W17 ne_b1_b14
  replace E_b14 := E_b14.wr W17
  have Zs18 := Nat.le_trans Zs15 (Keep.of_wr W17).1
  have KC18 := KC15.wr W17 (Or.inr sz_b14)
  obtain ⟨cl19, Ar19, aq19, aS19, aN19, aH19, aG19⟩ := id Vq17
  have hin20 : ¬ ((1 : Int32) < 0 ∨ cl19.slots.size ≤ ((1 : Int32)).toNatClampNeg) := inb_of aS19 ⟨by decide, by decide⟩
  obtain ⟨T20, h20, X20, e20, W20, st20⟩ := stD X17 hx hZ e17 Ar19 (j := (1 : Int32)) hin20 (g := (mkF m 251 (LA p1 p2 p3 p4 p5 (.val (.int (3 : Int32))) tu0 tu1 tu2 vu0 vu1 vu2 (.val (.ref b1)) .unset (.val (.ref ea)) .unset .unset .unset) [(dV vu1), (.int (1 : Int32)), (.ref b14), (.ref b14)])) rfl rfl (hb hby at_251)
  have N20 := Fr.snoc X20 N17 gn_b14
  have Vq20 : Arv Z h20 b14 k14 .double (3 : Int32) [(dV vu0), (dV vu1), dZ] dZ := Arv.set Ar19 aq19 aS19 aN19 aH19 aG19 rfl W20 1 rfl (Nat.le_of_ble_eq_true rfl)
  replace V_ea_c13 := V_ea_c13.other W20 ne_ea_b14
  replace EN_c13 := EN_c13.wr W20 (Nat.le_trans hkB sz_b14)
  replace E_b1_c13 := E_b1_c13.wr W20
  replace Vq10_c13 := Vq10_c13.other W20 ne_b1_b14
  replace E_b14 := E_b14.wr W20
  have Zs21 := Nat.le_trans Zs18 (Keep.of_wr W20).1
  have KC21 := KC18.wr W20 (Or.inr sz_b14)
  obtain ⟨cl22, Ar22, aq22, aS22, aN22, aH22, aG22⟩ := id Vq20
  have hin23 : ¬ ((2 : Int32) < 0 ∨ cl22.slots.size ≤ ((2 : Int32)).toNatClampNeg) := inb_of aS22 ⟨by decide, by decide⟩
  obtain ⟨T23, h23, X23, e23, W23, st23⟩ := stD X20 hx hZ e20 Ar22 (j := (2 : Int32)) hin23 (g := (mkF m 256 (LA p1 p2 p3 p4 p5 (.val (.int (3 : Int32))) tu0 tu1 tu2 vu0 vu1 vu2 (.val (.ref b1)) .unset (.val (.ref ea)) .unset .unset .unset) [(dV vu2), (.int (2 : Int32)), (.ref b14), (.ref b14)])) rfl rfl (hb hby at_256)
  have N23 := Fr.snoc X23 N20 gn_b14
  have Vq23 : Arv Z h23 b14 k14 .double (3 : Int32) [(dV vu0), (dV vu1), (dV vu2)] dZ := Arv.set Ar22 aq22 aS22 aN22 aH22 aG22 rfl W23 2 rfl (Nat.le_of_ble_eq_true rfl)
  replace V_ea_c13 := V_ea_c13.other W23 ne_ea_b14
  replace EN_c13 := EN_c13.wr W23 (Nat.le_trans hkB sz_b14)
  replace E_b1_c13 := E_b1_c13.wr W23
  replace Vq10_c13 := Vq10_c13.other W23 ne_b1_b14
  replace E_b14 := E_b14.wr W23
  have Zs24 := Nat.le_trans Zs21 (Keep.of_wr W23).1
  have KC24 := KC21.wr W23 (Or.inr sz_b14)
  have pre25 : Pr p e below I0 T23 (mkF m 257 (LA p1 p2 p3 p4 p5 (.val (.int (3 : Int32))) tu0 tu1 tu2 vu0 vu1 vu2 (.val (.ref b1)) .unset (.val (.ref ea)) .unset .unset .unset) [(.ref b14)]) := by
   intro tg kk
   refine pre13 tg ?_
   refine XS.astore X13.here hx rfl (hb hby at_237) rfl rfl (l' := (LA p1 p2 p3 p4 p5 (.val (.int (3 : Int32))) tu0 tu1 tu2 vu0 vu1 vu2 (.val (.ref b1)) .unset (.val (.ref ea)) .unset .unset .unset)) rfl ?_
   refine XS.iconst X13.here hx rfl (hb hby at_239) ?_
   refine st14 _ ?_
   refine XS.dup X14.here hx rfl (hb hby at_242) rfl rfl ?_
   refine XS.iconst X14.here hx rfl (hb hby at_243) ?_
   refine XS.dload X14.here hx rfl (hb hby at_244) rfl ?_
   refine st17 _ ?_
   refine XS.dup X17.here hx rfl (hb hby at_247) rfl rfl ?_
   refine XS.iconst X17.here hx rfl (hb hby at_248) ?_
   refine XS.dload X17.here hx rfl (hb hby at_249) rfl ?_
   refine st20 _ ?_
   refine XS.dup X20.here hx rfl (hb hby at_252) rfl rfl ?_
   refine XS.iconst X20.here hx rfl (hb hby at_253) ?_
   refine XS.dload X20.here hx rfl (hb hby at_254) rfl ?_
   refine st23 _ ?_
   exact kk
  exact ⟨T23, _, h23, b14, k14, X23, N23, e23, Zs24, KC24, V_ea_c13, EN_c13, E_b1_c13, Vq10_c13, E_b14, Vq23, gn_b14, sz_b14, ne_ea_b14, ne_b1_b14, pre25⟩
 clear pre13 X13 N13 e13 KC13 Zs13 V_ea_c13 EN_c13 E_b1_c13 Vq10_c13
 have pre27 : Pr p e below I0 T26 (mkF m 259 (LA p1 p2 p3 p4 p5 (.val (.int (3 : Int32))) tu0 tu1 tu2 vu0 vu1 vu2 (.val (.ref b1)) (.val (.ref b14)) (.val (.ref ea)) .unset .unset .unset) []) := by
  intro tg kk
  refine pre26 tg ?_
  refine XS.astore X26.here hx rfl (hb hby at_257) rfl rfl (l' := (LA p1 p2 p3 p4 p5 (.val (.int (3 : Int32))) tu0 tu1 tu2 vu0 vu1 vu2 (.val (.ref b1)) (.val (.ref b14)) (.val (.ref ea)) .unset .unset .unset)) rfl ?_
  exact kk
 exact ⟨T26, _, Hc26, b1, k1, b14, k14, X26, N26, e26, Zs26, KC26, EN_c26, V_ea_c26, Vq10_c26, E_b1_c26, Vq23_c26, E_b14_c26, gnc13_0, szc13_0, gnc26_1, szc26_1, nesc13_0, nesc26_1, pre27⟩
theorem pd____D : parseMethodDescriptor "()[D" = some ⟨[], some (.array .double)⟩ := by decide +kernel
theorem pd___D_DII_Z : parseMethodDescriptor "([D[DII)Z" = some ⟨[(.array .double), (.array .double), .int, .int], some .boolean⟩ := by decide +kernel
set_option maxRecDepth 65536 in
set_option maxHeartbeats 40000000 in
theorem sT0 {p : Program} {l : Launch} {e : Env} {s : State} {m : MethodId} {below : List Frame} {meth : Method} {c : Code} {T0 : State} {lo0 : List Loc} {Z : State} {a0 : Array Value} (hw : HW a0 Z) (hx : p.tables.exec = Jvm.exec) (hby : c.code = code) (hml : c.maxLocals = 26) (hZ : Z.Warmed39 s.vm) (hown : s.vm.findClass "com/example/narrow_bound/narrowbound/witness/CumulativeFunctionLevelsPinLaw" = some m.cls) (hnm : meth.name = "law") (p1 : Int32) (p2 : Int32) (p3 : Int32) (p4 : Int32) (p5 : Int32) (tu0 : Int64) (tu1 : Int64) (tu2 : Int64) (vu0 : Int64) (vu1 : Int64) (vu2 : Int64) (nv5 : Int32) (x20 : Addr) (x21 : Addr) (ea : Addr) (ea_k : ClassId) (a : Addr) (di : Addr) (di_k : ClassId) (dl : Addr) (dl_k : ClassId) (dr : Addr) (dr_k : ClassId) {h0 hs : Heap} {n0 : Nat} (X0 : Stand p l e room_1 s m #[(.int p1), (.int p2), (.int p3), (.int p4), (.int p5)] below meth c T0 lo0 20 120) (N0 : Fr n0 lo0) (e0 : T0.heap = hs) (Z0 : n0 ≤ hs.size) (KC0 : Keep h0 hs []) (E_a : Exa Z hs a cF) (F_instants : Fld Z hs a cF "instants" "[D" (.ref di)) (F_lefts : Fld Z hs a cF "lefts" "[D" (.ref dl)) (F_rights : Fld Z hs a cF "rights" "[D" (.ref dr)) (V_di : Arv Z hs di di_k .double (0 : Int32) [] dZ) (V_dl : Arv Z hs dl dl_k .double (0 : Int32) [] dZ) (V_dr : Arv Z hs dr dr_k .double (0 : Int32) [] dZ) (V_ea : Arv Z hs ea ea_k .double (6 : Int32) [dZ, dZ, dZ, dZ, dZ, dZ] dZ) :
    ∃ (T1 : State) (lo1 : List Loc) (h1 : Heap) (rb : Addr), Stand p l e room_1 s m #[(.int p1), (.int p2), (.int p3), (.int p4), (.int p5)] below meth c T1 lo1 21 120 ∧ Fr n0 lo1 ∧ T1.heap = h1 ∧ n0 ≤ h1.size ∧ Keep h0 h1 [] ∧ Pr p e below (T0.setTop (mkF m 386 (LA p1 p2 p3 p4 p5 (.val (.int nv5)) tu0 tu1 tu2 vu0 vu1 vu2 (.val (.ref x20)) (.val (.ref x21)) (.val (.ref ea)) (.val (.int (0 : Int32))) (.val (.ref a)) .unset) [])) T1 (mkF m 481 (LA p1 p2 p3 p4 p5 (.val (.int nv5)) tu0 tu1 tu2 vu0 vu1 vu2 (.val (.ref x20)) (.val (.ref x21)) (.val (.ref ea)) (.val (.int (0 : Int32))) (.val (.ref a)) (.val (.ref rb))) []) := by
 have pre0 : Pr p e below (T0.setTop (mkF m 386 (LA p1 p2 p3 p4 p5 (.val (.int nv5)) tu0 tu1 tu2 vu0 vu1 vu2 (.val (.ref x20)) (.val (.ref x21)) (.val (.ref ea)) (.val (.int (0 : Int32))) (.val (.ref a)) .unset) [])) T0 (mkF m 386 (LA p1 p2 p3 p4 p5 (.val (.int nv5)) tu0 tu1 tu2 vu0 vu1 vu2 (.val (.ref x20)) (.val (.ref x21)) (.val (.ref ea)) (.val (.int (0 : Int32))) (.val (.ref a)) .unset) []) := fun _ kk => kk
 generalize hI : T0.setTop (mkF m 386 (LA p1 p2 p3 p4 p5 (.val (.int nv5)) tu0 tu1 tu2 vu0 vu1 vu2 (.val (.ref x20)) (.val (.ref x21)) (.val (.ref ea)) (.val (.int (0 : Int32))) (.val (.ref a)) .unset) []) = I0 at pre0 ⊢
 obtain ⟨cq2, kq2, q2a, q2b, q2c⟩ := isOf hZ e0 E_a
 obtain ⟨_, _, ⟨T2, L2, k2, n2⟩, -, X2, ⟨Lc2, hQ2, l2, y2, z2⟩, st2⟩ := X0.virtualBack hx (y := M21) (z := M21) hown (mvT hZ (tw64 hw)) (mvT hZ (tw65 hw)) (notFace_of_selects (args := #[]) (mvT hZ (tw67 hw))) (mvT hZ (tw67 hw)) (mvT hZ (tw66 hw)) (by decide) (backOf (W := 0) (rmLV0 l Z a0 hw [] a dl dl_k dr dr_k di di_k hs n0 Z0 E_a F_instants V_di F_lefts F_rights V_dl V_dr) hZ (tw68 hw) (tw3 hw) (by decide) (by decide)) q2a q2c (g := (mkF m 388 (LA p1 p2 p3 p4 p5 (.val (.int nv5)) tu0 tu1 tu2 vu0 vu1 vu2 (.val (.ref x20)) (.val (.ref x21)) (.val (.ref ea)) (.val (.int (0 : Int32))) (.val (.ref a)) .unset) [(.ref a)])) rfl (by rw [hml]; rfl) (Steps.refl _) (argsL := []) (rest := []) (lenOf pd____D rfl) rfl (own_mr rfl) (hb hby at_388) (fun _ _ => ⟨rfl, e0, (by decide : 20 + 1 ≤ _), (by decide : 120 + 0 ≤ _)⟩)
 dsimp only [Pt.U, Pt.locs, Pt.cells, Pt.slots] at X2 l2 y2 z2 st2 hQ2
 rw [l2, y2, z2] at X2
 obtain ⟨b2, b_k2, rfl, N2q, K2, gb2, sb2, P2_0⟩ := hQ2
 have N2 := Fr.app N0 N2q
 replace E_a := E_a.keep K2
 replace F_instants := F_instants.keep K2 nin0
 replace F_lefts := F_lefts.keep K2 nin0
 replace F_rights := F_rights.keep K2 nin0
 replace V_di := V_di.keep K2 nin0
 replace V_dl := V_dl.keep K2 nin0
 replace V_dr := V_dr.keep K2 nin0
 have Zs3 := Nat.le_trans Z0 K2.1
 have KC3 := KC0.trans K2 all0
 have szb2 := Nat.le_trans KC0.1 sb2
 obtain ⟨cl4, Ar4, aq4, aS4, aN4, aH4, aG4⟩ := id P2_0
 obtain ⟨_, _, ⟨T5, L5, k5, n5⟩, -, X5, ⟨Lc5, hQ5, l5, y5, z5⟩, st5⟩ := Jvm.LawKit.callS X2 hx (y := M22) hown (mvT hZ (tw69 hw)) (mvT hZ (tw70 hw)) (mvT hZ (tw71 hw)) (mvT hZ (tw72 hw)) (by decide) (backOf (W := 0) (rmSN l Z a0 hw [] b2 ea ((0 : Int32)) ((0 : Int32)) T2.heap n0 Zs3 (by decide)) hZ (tw72 hw) (tw71 hw) (by decide) (by decide)) (g := (mkF m 410 (LA p1 p2 p3 p4 p5 (.val (.int nv5)) tu0 tu1 tu2 vu0 vu1 vu2 (.val (.ref x20)) (.val (.ref x21)) (.val (.ref ea)) (.val (.int (0 : Int32))) (.val (.ref a)) (.val (.ref b2))) [(.int (0 : Int32)), (.int (0 : Int32)), (.ref ea), (.ref b2)])) rfl (by rw [hml]; rfl) (argsL := [(.ref b2), (.ref ea), (.int (0 : Int32)), (.int (0 : Int32))]) (rest := []) (lenOf pd___D_DII_Z rfl) rfl (own_mr rfl) (hb hby at_410) (fun _ _ => ⟨rfl, rfl, (by decide : 21 + 0 ≤ _), (by decide : 120 + 0 ≤ _)⟩)
 dsimp only [Pt.U, Pt.locs, Pt.cells, Pt.slots] at X5 l5 y5 z5 st5 hQ5
 rw [l5, y5, z5] at X5
 obtain ⟨rfl, N5q, hh5⟩ := hQ5
 have N5 := Fr.app N2 N5q
 obtain ⟨_, _, ⟨T6, L6, k6, n6⟩, -, X6, ⟨Lc6, hQ6, l6, y6, z6⟩, st6⟩ := Jvm.LawKit.callS X5 hx (y := M22) hown (mvT hZ (tw69 hw)) (mvT hZ (tw70 hw)) (mvT hZ (tw71 hw)) (mvT hZ (tw72 hw)) (by decide) (backOf (W := 0) (rmSN l Z a0 hw [] b2 ea ((0 : Int32)) ((1 : Int32)) T2.heap n0 Zs3 (by decide)) hZ (tw72 hw) (tw71 hw) (by decide) (by decide)) (g := (mkF m 423 (LA p1 p2 p3 p4 p5 (.val (.int nv5)) tu0 tu1 tu2 vu0 vu1 vu2 (.val (.ref x20)) (.val (.ref x21)) (.val (.ref ea)) (.val (.int (0 : Int32))) (.val (.ref a)) (.val (.ref b2))) [(.int (1 : Int32)), (.int (0 : Int32)), (.ref ea), (.ref b2)])) rfl (by rw [hml]; rfl) (argsL := [(.ref b2), (.ref ea), (.int (0 : Int32)), (.int (1 : Int32))]) (rest := []) (lenOf pd___D_DII_Z rfl) rfl (own_mr rfl) (hb hby at_423) (fun _ _ => ⟨rfl, hh5, (by decide : 21 + 0 ≤ _), (by decide : 120 + 0 ≤ _)⟩)
 dsimp only [Pt.U, Pt.locs, Pt.cells, Pt.slots] at X6 l6 y6 z6 st6 hQ6
 rw [l6, y6, z6] at X6
 obtain ⟨rfl, N6q, hh6⟩ := hQ6
 have N6 := Fr.app N5 N6q
 obtain ⟨_, _, ⟨T7, L7, k7, n7⟩, -, X7, ⟨Lc7, hQ7, l7, y7, z7⟩, st7⟩ := Jvm.LawKit.callS X6 hx (y := M22) hown (mvT hZ (tw69 hw)) (mvT hZ (tw70 hw)) (mvT hZ (tw71 hw)) (mvT hZ (tw72 hw)) (by decide) (backOf (W := 0) (rmSN l Z a0 hw [] b2 ea ((0 : Int32)) ((2 : Int32)) T2.heap n0 Zs3 (by decide)) hZ (tw72 hw) (tw71 hw) (by decide) (by decide)) (g := (mkF m 436 (LA p1 p2 p3 p4 p5 (.val (.int nv5)) tu0 tu1 tu2 vu0 vu1 vu2 (.val (.ref x20)) (.val (.ref x21)) (.val (.ref ea)) (.val (.int (0 : Int32))) (.val (.ref a)) (.val (.ref b2))) [(.int (2 : Int32)), (.int (0 : Int32)), (.ref ea), (.ref b2)])) rfl (by rw [hml]; rfl) (argsL := [(.ref b2), (.ref ea), (.int (0 : Int32)), (.int (2 : Int32))]) (rest := []) (lenOf pd___D_DII_Z rfl) rfl (own_mr rfl) (hb hby at_436) (fun _ _ => ⟨rfl, hh6, (by decide : 21 + 0 ≤ _), (by decide : 120 + 0 ≤ _)⟩)
 dsimp only [Pt.U, Pt.locs, Pt.cells, Pt.slots] at X7 l7 y7 z7 st7 hQ7
 rw [l7, y7, z7] at X7
 obtain ⟨rfl, N7q, hh7⟩ := hQ7
 have N7 := Fr.app N6 N7q
 obtain ⟨_, _, ⟨T8, L8, k8, n8⟩, -, X8, ⟨Lc8, hQ8, l8, y8, z8⟩, st8⟩ := Jvm.LawKit.callS X7 hx (y := M22) hown (mvT hZ (tw69 hw)) (mvT hZ (tw70 hw)) (mvT hZ (tw71 hw)) (mvT hZ (tw72 hw)) (by decide) (backOf (W := 0) (rmSN l Z a0 hw [] b2 ea ((0 : Int32)) ((3 : Int32)) T2.heap n0 Zs3 (by decide)) hZ (tw72 hw) (tw71 hw) (by decide) (by decide)) (g := (mkF m 449 (LA p1 p2 p3 p4 p5 (.val (.int nv5)) tu0 tu1 tu2 vu0 vu1 vu2 (.val (.ref x20)) (.val (.ref x21)) (.val (.ref ea)) (.val (.int (0 : Int32))) (.val (.ref a)) (.val (.ref b2))) [(.int (3 : Int32)), (.int (0 : Int32)), (.ref ea), (.ref b2)])) rfl (by rw [hml]; rfl) (argsL := [(.ref b2), (.ref ea), (.int (0 : Int32)), (.int (3 : Int32))]) (rest := []) (lenOf pd___D_DII_Z rfl) rfl (own_mr rfl) (hb hby at_449) (fun _ _ => ⟨rfl, hh7, (by decide : 21 + 0 ≤ _), (by decide : 120 + 0 ≤ _)⟩)
 dsimp only [Pt.U, Pt.locs, Pt.cells, Pt.slots] at X8 l8 y8 z8 st8 hQ8
 rw [l8, y8, z8] at X8
 obtain ⟨rfl, N8q, hh8⟩ := hQ8
 have N8 := Fr.app N7 N8q
 obtain ⟨_, _, ⟨T9, L9, k9, n9⟩, -, X9, ⟨Lc9, hQ9, l9, y9, z9⟩, st9⟩ := Jvm.LawKit.callS X8 hx (y := M22) hown (mvT hZ (tw69 hw)) (mvT hZ (tw70 hw)) (mvT hZ (tw71 hw)) (mvT hZ (tw72 hw)) (by decide) (backOf (W := 0) (rmSN l Z a0 hw [] b2 ea ((0 : Int32)) ((4 : Int32)) T2.heap n0 Zs3 (by decide)) hZ (tw72 hw) (tw71 hw) (by decide) (by decide)) (g := (mkF m 462 (LA p1 p2 p3 p4 p5 (.val (.int nv5)) tu0 tu1 tu2 vu0 vu1 vu2 (.val (.ref x20)) (.val (.ref x21)) (.val (.ref ea)) (.val (.int (0 : Int32))) (.val (.ref a)) (.val (.ref b2))) [(.int (4 : Int32)), (.int (0 : Int32)), (.ref ea), (.ref b2)])) rfl (by rw [hml]; rfl) (argsL := [(.ref b2), (.ref ea), (.int (0 : Int32)), (.int (4 : Int32))]) (rest := []) (lenOf pd___D_DII_Z rfl) rfl (own_mr rfl) (hb hby at_462) (fun _ _ => ⟨rfl, hh8, (by decide : 21 + 0 ≤ _), (by decide : 120 + 0 ≤ _)⟩)
 dsimp only [Pt.U, Pt.locs, Pt.cells, Pt.slots] at X9 l9 y9 z9 st9 hQ9
 rw [l9, y9, z9] at X9
 obtain ⟨rfl, N9q, hh9⟩ := hQ9
 have N9 := Fr.app N8 N9q
 obtain ⟨_, _, ⟨T10, L10, k10, n10⟩, -, X10, ⟨Lc10, hQ10, l10, y10, z10⟩, st10⟩ := Jvm.LawKit.callS X9 hx (y := M22) hown (mvT hZ (tw69 hw)) (mvT hZ (tw70 hw)) (mvT hZ (tw71 hw)) (mvT hZ (tw72 hw)) (by decide) (backOf (W := 0) (rmSN l Z a0 hw [] b2 ea ((0 : Int32)) ((5 : Int32)) T2.heap n0 Zs3 (by decide)) hZ (tw72 hw) (tw71 hw) (by decide) (by decide)) (g := (mkF m 475 (LA p1 p2 p3 p4 p5 (.val (.int nv5)) tu0 tu1 tu2 vu0 vu1 vu2 (.val (.ref x20)) (.val (.ref x21)) (.val (.ref ea)) (.val (.int (0 : Int32))) (.val (.ref a)) (.val (.ref b2))) [(.int (5 : Int32)), (.int (0 : Int32)), (.ref ea), (.ref b2)])) rfl (by rw [hml]; rfl) (argsL := [(.ref b2), (.ref ea), (.int (0 : Int32)), (.int (5 : Int32))]) (rest := []) (lenOf pd___D_DII_Z rfl) rfl (own_mr rfl) (hb hby at_475) (fun _ _ => ⟨rfl, hh9, (by decide : 21 + 0 ≤ _), (by decide : 120 + 0 ≤ _)⟩)
 dsimp only [Pt.U, Pt.locs, Pt.cells, Pt.slots] at X10 l10 y10 z10 st10 hQ10
 rw [l10, y10, z10] at X10
 obtain ⟨rfl, N10q, hh10⟩ := hQ10
 have N10 := Fr.app N9 N10q
 have pre11 : Pr p e below I0 T10 (mkF m 481 (LA p1 p2 p3 p4 p5 (.val (.int nv5)) tu0 tu1 tu2 vu0 vu1 vu2 (.val (.ref x20)) (.val (.ref x21)) (.val (.ref ea)) (.val (.int (0 : Int32))) (.val (.ref a)) (.val (.ref b2))) []) := by
  intro tg kk
  refine pre0 tg ?_
  refine XS.aload X0.here hx rfl (hb hby at_386) rfl rfl ?_
  refine st2.trans ?_
  refine XS.astore X2.here hx rfl (hb hby at_391) rfl rfl (l' := (LA p1 p2 p3 p4 p5 (.val (.int nv5)) tu0 tu1 tu2 vu0 vu1 vu2 (.val (.ref x20)) (.val (.ref x21)) (.val (.ref ea)) (.val (.int (0 : Int32))) (.val (.ref a)) (.val (.ref b2)))) rfl ?_
  refine XS.aload X2.here hx rfl (hb hby at_393) rfl rfl ?_
  refine X2.arraylength hx Ar4.1 (State.isArrayOf_alike hZ.alike Ar4.2.1) (g := (mkF m 395 (LA p1 p2 p3 p4 p5 (.val (.int nv5)) tu0 tu1 tu2 vu0 vu1 vu2 (.val (.ref x20)) (.val (.ref x21)) (.val (.ref ea)) (.val (.int (0 : Int32))) (.val (.ref a)) (.val (.ref b2))) [(.ref b2)])) rfl rfl (hb hby at_395) _ ?_
  rw [len_of aS4 aN4]
  refine XS.iload X2.here hx rfl (hb hby at_396) rfl ?_
  refine XS.icmpYes X2.here hx rfl (pc0 := 398) (pc' := 403) rfl (hb hby at_398) rfl (XT.ii_eq_t (by decide)) (by decide) (by decide) ?_
  refine XS.aload X2.here hx rfl (hb hby at_403) rfl rfl ?_
  refine XS.aload X2.here hx rfl (hb hby at_405) rfl rfl ?_
  refine XS.iload X2.here hx rfl (hb hby at_407) rfl ?_
  refine XS.iconst X2.here hx rfl (hb hby at_409) ?_
  refine st5 _ ?_
  refine XS.ifNo X5.here hx rfl (hb hby at_413) rfl (XT.i0_eq_f (by decide)) ?_
  refine XS.aload X5.here hx rfl (hb hby at_416) rfl rfl ?_
  refine XS.aload X5.here hx rfl (hb hby at_418) rfl rfl ?_
  refine XS.iload X5.here hx rfl (hb hby at_420) rfl ?_
  refine XS.iconst X5.here hx rfl (hb hby at_422) ?_
  refine st6 _ ?_
  refine XS.ifNo X6.here hx rfl (hb hby at_426) rfl (XT.i0_eq_f (by decide)) ?_
  refine XS.aload X6.here hx rfl (hb hby at_429) rfl rfl ?_
  refine XS.aload X6.here hx rfl (hb hby at_431) rfl rfl ?_
  refine XS.iload X6.here hx rfl (hb hby at_433) rfl ?_
  refine XS.iconst X6.here hx rfl (hb hby at_435) ?_
  refine st7 _ ?_
  refine XS.ifNo X7.here hx rfl (hb hby at_439) rfl (XT.i0_eq_f (by decide)) ?_
  refine XS.aload X7.here hx rfl (hb hby at_442) rfl rfl ?_
  refine XS.aload X7.here hx rfl (hb hby at_444) rfl rfl ?_
  refine XS.iload X7.here hx rfl (hb hby at_446) rfl ?_
  refine XS.iconst X7.here hx rfl (hb hby at_448) ?_
  refine st8 _ ?_
  refine XS.ifNo X8.here hx rfl (hb hby at_452) rfl (XT.i0_eq_f (by decide)) ?_
  refine XS.aload X8.here hx rfl (hb hby at_455) rfl rfl ?_
  refine XS.aload X8.here hx rfl (hb hby at_457) rfl rfl ?_
  refine XS.iload X8.here hx rfl (hb hby at_459) rfl ?_
  refine XS.iconst X8.here hx rfl (hb hby at_461) ?_
  refine st9 _ ?_
  refine XS.ifNo X9.here hx rfl (hb hby at_465) rfl (XT.i0_eq_f (by decide)) ?_
  refine XS.aload X9.here hx rfl (hb hby at_468) rfl rfl ?_
  refine XS.aload X9.here hx rfl (hb hby at_470) rfl rfl ?_
  refine XS.iload X9.here hx rfl (hb hby at_472) rfl ?_
  refine XS.iconst X9.here hx rfl (hb hby at_474) ?_
  refine st10 _ ?_
  refine XS.ifNo X10.here hx rfl (hb hby at_478) rfl (XT.i0_eq_f (by decide)) ?_
  exact kk
 exact ⟨T10, _, T2.heap, b2, X10, N10, hh10, Zs3, KC3, pre11⟩
set_option maxRecDepth 65536 in
set_option maxHeartbeats 40000000 in
theorem sT1 {p : Program} {l : Launch} {e : Env} {s : State} {m : MethodId} {below : List Frame} {meth : Method} {c : Code} {T0 : State} {lo0 : List Loc} {Z : State} {a0 : Array Value} (hw : HW a0 Z) (hx : p.tables.exec = Jvm.exec) (hby : c.code = code) (hml : c.maxLocals = 26) (hZ : Z.Warmed39 s.vm) (hown : s.vm.findClass "com/example/narrow_bound/narrowbound/witness/CumulativeFunctionLevelsPinLaw" = some m.cls) (hnm : meth.name = "law") (p1 : Int32) (p2 : Int32) (p3 : Int32) (p4 : Int32) (p5 : Int32) (tu0 : Int64) (tu1 : Int64) (tu2 : Int64) (vu0 : Int64) (vu1 : Int64) (vu2 : Int64) (nv5 : Int32) (x20 : Addr) (x21 : Addr) (ea : Addr) (ea_k : ClassId) (a : Addr) (di : Addr) (di_k : ClassId) (dl : Addr) (dl_k : ClassId) (dr : Addr) (dr_k : ClassId) (ta1 : Int64) (tc1 : Int64) {h0 hs : Heap} {n0 : Nat} (X0 : Stand p l e room_1 s m #[(.int p1), (.int p2), (.int p3), (.int p4), (.int p5)] below meth c T0 lo0 20 120) (N0 : Fr n0 lo0) (e0 : T0.heap = hs) (Z0 : n0 ≤ hs.size) (KC0 : Keep h0 hs []) (E_a : Exa Z hs a cF) (F_instants : Fld Z hs a cF "instants" "[D" (.ref di)) (F_lefts : Fld Z hs a cF "lefts" "[D" (.ref dl)) (F_rights : Fld Z hs a cF "rights" "[D" (.ref dr)) (V_di : Arv Z hs di di_k .double (1 : Int32) [(dV ta1)] dZ) (V_dl : Arv Z hs dl dl_k .double (1 : Int32) [dZ] dZ) (V_dr : Arv Z hs dr dr_k .double (1 : Int32) [(dV tc1)] dZ) (V_ea : Arv Z hs ea ea_k .double (6 : Int32) [dZ, (dV tc1), dZ, dZ, dZ, dZ] dZ) (b_tc1 : B53 tc1) :
    ∃ (T1 : State) (lo1 : List Loc) (h1 : Heap) (rb : Addr), Stand p l e room_1 s m #[(.int p1), (.int p2), (.int p3), (.int p4), (.int p5)] below meth c T1 lo1 21 122 ∧ Fr n0 lo1 ∧ T1.heap = h1 ∧ n0 ≤ h1.size ∧ Keep h0 h1 [] ∧ Pr p e below (T0.setTop (mkF m 386 (LA p1 p2 p3 p4 p5 (.val (.int nv5)) tu0 tu1 tu2 vu0 vu1 vu2 (.val (.ref x20)) (.val (.ref x21)) (.val (.ref ea)) (.val (.int (2 : Int32))) (.val (.ref a)) .unset) [])) T1 (mkF m 481 (LA p1 p2 p3 p4 p5 (.val (.int nv5)) tu0 tu1 tu2 vu0 vu1 vu2 (.val (.ref x20)) (.val (.ref x21)) (.val (.ref ea)) (.val (.int (2 : Int32))) (.val (.ref a)) (.val (.ref rb))) []) := by
 have pre0 : Pr p e below (T0.setTop (mkF m 386 (LA p1 p2 p3 p4 p5 (.val (.int nv5)) tu0 tu1 tu2 vu0 vu1 vu2 (.val (.ref x20)) (.val (.ref x21)) (.val (.ref ea)) (.val (.int (2 : Int32))) (.val (.ref a)) .unset) [])) T0 (mkF m 386 (LA p1 p2 p3 p4 p5 (.val (.int nv5)) tu0 tu1 tu2 vu0 vu1 vu2 (.val (.ref x20)) (.val (.ref x21)) (.val (.ref ea)) (.val (.int (2 : Int32))) (.val (.ref a)) .unset) []) := fun _ kk => kk
 generalize hI : T0.setTop (mkF m 386 (LA p1 p2 p3 p4 p5 (.val (.int nv5)) tu0 tu1 tu2 vu0 vu1 vu2 (.val (.ref x20)) (.val (.ref x21)) (.val (.ref ea)) (.val (.int (2 : Int32))) (.val (.ref a)) .unset) []) = I0 at pre0 ⊢
 obtain ⟨cq2, kq2, q2a, q2b, q2c⟩ := isOf hZ e0 E_a
 obtain ⟨_, _, ⟨T2, L2, k2, n2⟩, -, X2, ⟨Lc2, hQ2, l2, y2, z2⟩, st2⟩ := X0.virtualBack hx (y := M21) (z := M21) hown (mvT hZ (tw64 hw)) (mvT hZ (tw65 hw)) (notFace_of_selects (args := #[]) (mvT hZ (tw67 hw))) (mvT hZ (tw67 hw)) (mvT hZ (tw66 hw)) (by decide) (backOf (W := 0) (rmLV1 l Z a0 hw [] a dl dl_k dr dr_k ((0 : Int64)) tc1 di di_k ta1 hs n0 Z0 E_a F_instants V_di F_lefts F_rights V_dl V_dr) hZ (tw68 hw) (tw3 hw) (by decide) (by decide)) q2a q2c (g := (mkF m 388 (LA p1 p2 p3 p4 p5 (.val (.int nv5)) tu0 tu1 tu2 vu0 vu1 vu2 (.val (.ref x20)) (.val (.ref x21)) (.val (.ref ea)) (.val (.int (2 : Int32))) (.val (.ref a)) .unset) [(.ref a)])) rfl (by rw [hml]; rfl) (Steps.refl _) (argsL := []) (rest := []) (lenOf pd____D rfl) rfl (own_mr rfl) (hb hby at_388) (fun _ _ => ⟨rfl, e0, (by decide : 20 + 1 ≤ _), (by decide : 120 + 2 ≤ _)⟩)
 dsimp only [Pt.U, Pt.locs, Pt.cells, Pt.slots] at X2 l2 y2 z2 st2 hQ2
 rw [l2, y2, z2] at X2
 obtain ⟨b2, b_k2, rfl, N2q, K2, gb2, sb2, P2_0⟩ := hQ2
 have N2 := Fr.app N0 N2q
 replace E_a := E_a.keep K2
 replace F_instants := F_instants.keep K2 nin0
 replace F_lefts := F_lefts.keep K2 nin0
 replace F_rights := F_rights.keep K2 nin0
 replace V_di := V_di.keep K2 nin0
 replace V_dl := V_dl.keep K2 nin0
 replace V_dr := V_dr.keep K2 nin0
 replace V_ea := V_ea.keep K2 nin0
 have Zs3 := Nat.le_trans Z0 K2.1
 have KC3 := KC0.trans K2 all0
 have szb2 := Nat.le_trans KC0.1 sb2
 obtain ⟨cl4, Ar4, aq4, aS4, aN4, aH4, aG4⟩ := id P2_0
 obtain ⟨_, _, ⟨T5, L5, k5, n5⟩, -, X5, ⟨Lc5, hQ5, l5, y5, z5⟩, st5⟩ := Jvm.LawKit.callS X2 hx (y := M22) hown (mvT hZ (tw69 hw)) (mvT hZ (tw70 hw)) (mvT hZ (tw71 hw)) (mvT hZ (tw72 hw)) (by decide) (backOf (W := 0) (rmSY l Z a0 hw [] b2 ea ((2 : Int32)) ((0 : Int32)) b_k2 ea_k ((2 : Int32)) ((6 : Int32)) ([dZ, (dV tc1)]) ([dZ, (dV tc1), dZ, dZ, dZ, dZ]) ((0 : Int64)) T2.heap n0 Zs3 P2_0 V_ea (by decide) (by decide) (by decide) rfl rfl own_b0) hZ (tw72 hw) (tw71 hw) (by decide) (by decide)) (g := (mkF m 410 (LA p1 p2 p3 p4 p5 (.val (.int nv5)) tu0 tu1 tu2 vu0 vu1 vu2 (.val (.ref x20)) (.val (.ref x21)) (.val (.ref ea)) (.val (.int (2 : Int32))) (.val (.ref a)) (.val (.ref b2))) [(.int (0 : Int32)), (.int (2 : Int32)), (.ref ea), (.ref b2)])) rfl (by rw [hml]; rfl) (argsL := [(.ref b2), (.ref ea), (.int (2 : Int32)), (.int (0 : Int32))]) (rest := []) (lenOf pd___D_DII_Z rfl) rfl (own_mr rfl) (hb hby at_410) (fun _ _ => ⟨rfl, rfl, (by decide : 21 + 0 ≤ _), (by decide : 122 + 0 ≤ _)⟩)
 dsimp only [Pt.U, Pt.locs, Pt.cells, Pt.slots] at X5 l5 y5 z5 st5 hQ5
 rw [l5, y5, z5] at X5
 obtain ⟨rfl, N5q, hh5⟩ := hQ5
 have N5 := Fr.app N2 N5q
 obtain ⟨_, _, ⟨T6, L6, k6, n6⟩, -, X6, ⟨Lc6, hQ6, l6, y6, z6⟩, st6⟩ := Jvm.LawKit.callS X5 hx (y := M22) hown (mvT hZ (tw69 hw)) (mvT hZ (tw70 hw)) (mvT hZ (tw71 hw)) (mvT hZ (tw72 hw)) (by decide) (backOf (W := 0) (rmSY l Z a0 hw [] b2 ea ((2 : Int32)) ((1 : Int32)) b_k2 ea_k ((2 : Int32)) ((6 : Int32)) ([dZ, (dV tc1)]) ([dZ, (dV tc1), dZ, dZ, dZ, dZ]) tc1 T2.heap n0 Zs3 P2_0 V_ea (by decide) (by decide) (by decide) rfl rfl b_tc1) hZ (tw72 hw) (tw71 hw) (by decide) (by decide)) (g := (mkF m 423 (LA p1 p2 p3 p4 p5 (.val (.int nv5)) tu0 tu1 tu2 vu0 vu1 vu2 (.val (.ref x20)) (.val (.ref x21)) (.val (.ref ea)) (.val (.int (2 : Int32))) (.val (.ref a)) (.val (.ref b2))) [(.int (1 : Int32)), (.int (2 : Int32)), (.ref ea), (.ref b2)])) rfl (by rw [hml]; rfl) (argsL := [(.ref b2), (.ref ea), (.int (2 : Int32)), (.int (1 : Int32))]) (rest := []) (lenOf pd___D_DII_Z rfl) rfl (own_mr rfl) (hb hby at_423) (fun _ _ => ⟨rfl, hh5, (by decide : 21 + 0 ≤ _), (by decide : 122 + 0 ≤ _)⟩)
 dsimp only [Pt.U, Pt.locs, Pt.cells, Pt.slots] at X6 l6 y6 z6 st6 hQ6
 rw [l6, y6, z6] at X6
 obtain ⟨rfl, N6q, hh6⟩ := hQ6
 have N6 := Fr.app N5 N6q
 obtain ⟨_, _, ⟨T7, L7, k7, n7⟩, -, X7, ⟨Lc7, hQ7, l7, y7, z7⟩, st7⟩ := Jvm.LawKit.callS X6 hx (y := M22) hown (mvT hZ (tw69 hw)) (mvT hZ (tw70 hw)) (mvT hZ (tw71 hw)) (mvT hZ (tw72 hw)) (by decide) (backOf (W := 0) (rmSN l Z a0 hw [] b2 ea ((2 : Int32)) ((2 : Int32)) T2.heap n0 Zs3 (by decide)) hZ (tw72 hw) (tw71 hw) (by decide) (by decide)) (g := (mkF m 436 (LA p1 p2 p3 p4 p5 (.val (.int nv5)) tu0 tu1 tu2 vu0 vu1 vu2 (.val (.ref x20)) (.val (.ref x21)) (.val (.ref ea)) (.val (.int (2 : Int32))) (.val (.ref a)) (.val (.ref b2))) [(.int (2 : Int32)), (.int (2 : Int32)), (.ref ea), (.ref b2)])) rfl (by rw [hml]; rfl) (argsL := [(.ref b2), (.ref ea), (.int (2 : Int32)), (.int (2 : Int32))]) (rest := []) (lenOf pd___D_DII_Z rfl) rfl (own_mr rfl) (hb hby at_436) (fun _ _ => ⟨rfl, hh6, (by decide : 21 + 0 ≤ _), (by decide : 122 + 0 ≤ _)⟩)
 dsimp only [Pt.U, Pt.locs, Pt.cells, Pt.slots] at X7 l7 y7 z7 st7 hQ7
 rw [l7, y7, z7] at X7
 obtain ⟨rfl, N7q, hh7⟩ := hQ7
 have N7 := Fr.app N6 N7q
 obtain ⟨_, _, ⟨T8, L8, k8, n8⟩, -, X8, ⟨Lc8, hQ8, l8, y8, z8⟩, st8⟩ := Jvm.LawKit.callS X7 hx (y := M22) hown (mvT hZ (tw69 hw)) (mvT hZ (tw70 hw)) (mvT hZ (tw71 hw)) (mvT hZ (tw72 hw)) (by decide) (backOf (W := 0) (rmSN l Z a0 hw [] b2 ea ((2 : Int32)) ((3 : Int32)) T2.heap n0 Zs3 (by decide)) hZ (tw72 hw) (tw71 hw) (by decide) (by decide)) (g := (mkF m 449 (LA p1 p2 p3 p4 p5 (.val (.int nv5)) tu0 tu1 tu2 vu0 vu1 vu2 (.val (.ref x20)) (.val (.ref x21)) (.val (.ref ea)) (.val (.int (2 : Int32))) (.val (.ref a)) (.val (.ref b2))) [(.int (3 : Int32)), (.int (2 : Int32)), (.ref ea), (.ref b2)])) rfl (by rw [hml]; rfl) (argsL := [(.ref b2), (.ref ea), (.int (2 : Int32)), (.int (3 : Int32))]) (rest := []) (lenOf pd___D_DII_Z rfl) rfl (own_mr rfl) (hb hby at_449) (fun _ _ => ⟨rfl, hh7, (by decide : 21 + 0 ≤ _), (by decide : 122 + 0 ≤ _)⟩)
 dsimp only [Pt.U, Pt.locs, Pt.cells, Pt.slots] at X8 l8 y8 z8 st8 hQ8
 rw [l8, y8, z8] at X8
 obtain ⟨rfl, N8q, hh8⟩ := hQ8
 have N8 := Fr.app N7 N8q
 obtain ⟨_, _, ⟨T9, L9, k9, n9⟩, -, X9, ⟨Lc9, hQ9, l9, y9, z9⟩, st9⟩ := Jvm.LawKit.callS X8 hx (y := M22) hown (mvT hZ (tw69 hw)) (mvT hZ (tw70 hw)) (mvT hZ (tw71 hw)) (mvT hZ (tw72 hw)) (by decide) (backOf (W := 0) (rmSN l Z a0 hw [] b2 ea ((2 : Int32)) ((4 : Int32)) T2.heap n0 Zs3 (by decide)) hZ (tw72 hw) (tw71 hw) (by decide) (by decide)) (g := (mkF m 462 (LA p1 p2 p3 p4 p5 (.val (.int nv5)) tu0 tu1 tu2 vu0 vu1 vu2 (.val (.ref x20)) (.val (.ref x21)) (.val (.ref ea)) (.val (.int (2 : Int32))) (.val (.ref a)) (.val (.ref b2))) [(.int (4 : Int32)), (.int (2 : Int32)), (.ref ea), (.ref b2)])) rfl (by rw [hml]; rfl) (argsL := [(.ref b2), (.ref ea), (.int (2 : Int32)), (.int (4 : Int32))]) (rest := []) (lenOf pd___D_DII_Z rfl) rfl (own_mr rfl) (hb hby at_462) (fun _ _ => ⟨rfl, hh8, (by decide : 21 + 0 ≤ _), (by decide : 122 + 0 ≤ _)⟩)
 dsimp only [Pt.U, Pt.locs, Pt.cells, Pt.slots] at X9 l9 y9 z9 st9 hQ9
 rw [l9, y9, z9] at X9
 obtain ⟨rfl, N9q, hh9⟩ := hQ9
 have N9 := Fr.app N8 N9q
 obtain ⟨_, _, ⟨T10, L10, k10, n10⟩, -, X10, ⟨Lc10, hQ10, l10, y10, z10⟩, st10⟩ := Jvm.LawKit.callS X9 hx (y := M22) hown (mvT hZ (tw69 hw)) (mvT hZ (tw70 hw)) (mvT hZ (tw71 hw)) (mvT hZ (tw72 hw)) (by decide) (backOf (W := 0) (rmSN l Z a0 hw [] b2 ea ((2 : Int32)) ((5 : Int32)) T2.heap n0 Zs3 (by decide)) hZ (tw72 hw) (tw71 hw) (by decide) (by decide)) (g := (mkF m 475 (LA p1 p2 p3 p4 p5 (.val (.int nv5)) tu0 tu1 tu2 vu0 vu1 vu2 (.val (.ref x20)) (.val (.ref x21)) (.val (.ref ea)) (.val (.int (2 : Int32))) (.val (.ref a)) (.val (.ref b2))) [(.int (5 : Int32)), (.int (2 : Int32)), (.ref ea), (.ref b2)])) rfl (by rw [hml]; rfl) (argsL := [(.ref b2), (.ref ea), (.int (2 : Int32)), (.int (5 : Int32))]) (rest := []) (lenOf pd___D_DII_Z rfl) rfl (own_mr rfl) (hb hby at_475) (fun _ _ => ⟨rfl, hh9, (by decide : 21 + 0 ≤ _), (by decide : 122 + 0 ≤ _)⟩)
 dsimp only [Pt.U, Pt.locs, Pt.cells, Pt.slots] at X10 l10 y10 z10 st10 hQ10
 rw [l10, y10, z10] at X10
 obtain ⟨rfl, N10q, hh10⟩ := hQ10
 have N10 := Fr.app N9 N10q
 have pre11 : Pr p e below I0 T10 (mkF m 481 (LA p1 p2 p3 p4 p5 (.val (.int nv5)) tu0 tu1 tu2 vu0 vu1 vu2 (.val (.ref x20)) (.val (.ref x21)) (.val (.ref ea)) (.val (.int (2 : Int32))) (.val (.ref a)) (.val (.ref b2))) []) := by
  intro tg kk
  refine pre0 tg ?_
  refine XS.aload X0.here hx rfl (hb hby at_386) rfl rfl ?_
  refine st2.trans ?_
  refine XS.astore X2.here hx rfl (hb hby at_391) rfl rfl (l' := (LA p1 p2 p3 p4 p5 (.val (.int nv5)) tu0 tu1 tu2 vu0 vu1 vu2 (.val (.ref x20)) (.val (.ref x21)) (.val (.ref ea)) (.val (.int (2 : Int32))) (.val (.ref a)) (.val (.ref b2)))) rfl ?_
  refine XS.aload X2.here hx rfl (hb hby at_393) rfl rfl ?_
  refine X2.arraylength hx Ar4.1 (State.isArrayOf_alike hZ.alike Ar4.2.1) (g := (mkF m 395 (LA p1 p2 p3 p4 p5 (.val (.int nv5)) tu0 tu1 tu2 vu0 vu1 vu2 (.val (.ref x20)) (.val (.ref x21)) (.val (.ref ea)) (.val (.int (2 : Int32))) (.val (.ref a)) (.val (.ref b2))) [(.ref b2)])) rfl rfl (hb hby at_395) _ ?_
  rw [len_of aS4 aN4]
  refine XS.iload X2.here hx rfl (hb hby at_396) rfl ?_
  refine XS.icmpYes X2.here hx rfl (pc0 := 398) (pc' := 403) rfl (hb hby at_398) rfl (XT.ii_eq_t (by decide)) (by decide) (by decide) ?_
  refine XS.aload X2.here hx rfl (hb hby at_403) rfl rfl ?_
  refine XS.aload X2.here hx rfl (hb hby at_405) rfl rfl ?_
  refine XS.iload X2.here hx rfl (hb hby at_407) rfl ?_
  refine XS.iconst X2.here hx rfl (hb hby at_409) ?_
  refine st5 _ ?_
  refine XS.ifNo X5.here hx rfl (hb hby at_413) rfl (XT.i0_eq_f (by decide)) ?_
  refine XS.aload X5.here hx rfl (hb hby at_416) rfl rfl ?_
  refine XS.aload X5.here hx rfl (hb hby at_418) rfl rfl ?_
  refine XS.iload X5.here hx rfl (hb hby at_420) rfl ?_
  refine XS.iconst X5.here hx rfl (hb hby at_422) ?_
  refine st6 _ ?_
  refine XS.ifNo X6.here hx rfl (hb hby at_426) rfl (XT.i0_eq_f (by decide)) ?_
  refine XS.aload X6.here hx rfl (hb hby at_429) rfl rfl ?_
  refine XS.aload X6.here hx rfl (hb hby at_431) rfl rfl ?_
  refine XS.iload X6.here hx rfl (hb hby at_433) rfl ?_
  refine XS.iconst X6.here hx rfl (hb hby at_435) ?_
  refine st7 _ ?_
  refine XS.ifNo X7.here hx rfl (hb hby at_439) rfl (XT.i0_eq_f (by decide)) ?_
  refine XS.aload X7.here hx rfl (hb hby at_442) rfl rfl ?_
  refine XS.aload X7.here hx rfl (hb hby at_444) rfl rfl ?_
  refine XS.iload X7.here hx rfl (hb hby at_446) rfl ?_
  refine XS.iconst X7.here hx rfl (hb hby at_448) ?_
  refine st8 _ ?_
  refine XS.ifNo X8.here hx rfl (hb hby at_452) rfl (XT.i0_eq_f (by decide)) ?_
  refine XS.aload X8.here hx rfl (hb hby at_455) rfl rfl ?_
  refine XS.aload X8.here hx rfl (hb hby at_457) rfl rfl ?_
  refine XS.iload X8.here hx rfl (hb hby at_459) rfl ?_
  refine XS.iconst X8.here hx rfl (hb hby at_461) ?_
  refine st9 _ ?_
  refine XS.ifNo X9.here hx rfl (hb hby at_465) rfl (XT.i0_eq_f (by decide)) ?_
  refine XS.aload X9.here hx rfl (hb hby at_468) rfl rfl ?_
  refine XS.aload X9.here hx rfl (hb hby at_470) rfl rfl ?_
  refine XS.iload X9.here hx rfl (hb hby at_472) rfl ?_
  refine XS.iconst X9.here hx rfl (hb hby at_474) ?_
  refine st10 _ ?_
  refine XS.ifNo X10.here hx rfl (hb hby at_478) rfl (XT.i0_eq_f (by decide)) ?_
  exact kk
 exact ⟨T10, _, T2.heap, b2, X10, N10, hh10, Zs3, KC3, pre11⟩
set_option maxRecDepth 65536 in
set_option maxHeartbeats 40000000 in
theorem sT2 {p : Program} {l : Launch} {e : Env} {s : State} {m : MethodId} {below : List Frame} {meth : Method} {c : Code} {T0 : State} {lo0 : List Loc} {Z : State} {a0 : Array Value} (hw : HW a0 Z) (hx : p.tables.exec = Jvm.exec) (hby : c.code = code) (hml : c.maxLocals = 26) (hZ : Z.Warmed39 s.vm) (hown : s.vm.findClass "com/example/narrow_bound/narrowbound/witness/CumulativeFunctionLevelsPinLaw" = some m.cls) (hnm : meth.name = "law") (p1 : Int32) (p2 : Int32) (p3 : Int32) (p4 : Int32) (p5 : Int32) (tu0 : Int64) (tu1 : Int64) (tu2 : Int64) (vu0 : Int64) (vu1 : Int64) (vu2 : Int64) (nv5 : Int32) (x20 : Addr) (x21 : Addr) (ea : Addr) (ea_k : ClassId) (a : Addr) (di : Addr) (di_k : ClassId) (dl : Addr) (dl_k : ClassId) (dr : Addr) (dr_k : ClassId) (ta1 : Int64) (ta2 : Int64) (tb2 : Int64) (tc1 : Int64) (tc2 : Int64) {h0 hs : Heap} {n0 : Nat} (X0 : Stand p l e room_1 s m #[(.int p1), (.int p2), (.int p3), (.int p4), (.int p5)] below meth c T0 lo0 20 120) (N0 : Fr n0 lo0) (e0 : T0.heap = hs) (Z0 : n0 ≤ hs.size) (KC0 : Keep h0 hs []) (E_a : Exa Z hs a cF) (F_instants : Fld Z hs a cF "instants" "[D" (.ref di)) (F_lefts : Fld Z hs a cF "lefts" "[D" (.ref dl)) (F_rights : Fld Z hs a cF "rights" "[D" (.ref dr)) (V_di : Arv Z hs di di_k .double (2 : Int32) [(dV ta1), (dV ta2)] dZ) (V_dl : Arv Z hs dl dl_k .double (2 : Int32) [dZ, (dV tb2)] dZ) (V_dr : Arv Z hs dr dr_k .double (2 : Int32) [(dV tc1), (dV tc2)] dZ) (V_ea : Arv Z hs ea ea_k .double (6 : Int32) [dZ, (dV tc1), (dV tb2), (dV tc2), dZ, dZ] dZ) (b_tb2 : B53 tb2) (b_tc1 : B53 tc1) (b_tc2 : B53 tc2) :
    ∃ (T1 : State) (lo1 : List Loc) (h1 : Heap) (rb : Addr), Stand p l e room_1 s m #[(.int p1), (.int p2), (.int p3), (.int p4), (.int p5)] below meth c T1 lo1 21 124 ∧ Fr n0 lo1 ∧ T1.heap = h1 ∧ n0 ≤ h1.size ∧ Keep h0 h1 [] ∧ Pr p e below (T0.setTop (mkF m 386 (LA p1 p2 p3 p4 p5 (.val (.int nv5)) tu0 tu1 tu2 vu0 vu1 vu2 (.val (.ref x20)) (.val (.ref x21)) (.val (.ref ea)) (.val (.int (4 : Int32))) (.val (.ref a)) .unset) [])) T1 (mkF m 481 (LA p1 p2 p3 p4 p5 (.val (.int nv5)) tu0 tu1 tu2 vu0 vu1 vu2 (.val (.ref x20)) (.val (.ref x21)) (.val (.ref ea)) (.val (.int (4 : Int32))) (.val (.ref a)) (.val (.ref rb))) []) := by
 have pre0 : Pr p e below (T0.setTop (mkF m 386 (LA p1 p2 p3 p4 p5 (.val (.int nv5)) tu0 tu1 tu2 vu0 vu1 vu2 (.val (.ref x20)) (.val (.ref x21)) (.val (.ref ea)) (.val (.int (4 : Int32))) (.val (.ref a)) .unset) [])) T0 (mkF m 386 (LA p1 p2 p3 p4 p5 (.val (.int nv5)) tu0 tu1 tu2 vu0 vu1 vu2 (.val (.ref x20)) (.val (.ref x21)) (.val (.ref ea)) (.val (.int (4 : Int32))) (.val (.ref a)) .unset) []) := fun _ kk => kk
 generalize hI : T0.setTop (mkF m 386 (LA p1 p2 p3 p4 p5 (.val (.int nv5)) tu0 tu1 tu2 vu0 vu1 vu2 (.val (.ref x20)) (.val (.ref x21)) (.val (.ref ea)) (.val (.int (4 : Int32))) (.val (.ref a)) .unset) []) = I0 at pre0 ⊢
 obtain ⟨cq2, kq2, q2a, q2b, q2c⟩ := isOf hZ e0 E_a
 obtain ⟨_, _, ⟨T2, L2, k2, n2⟩, -, X2, ⟨Lc2, hQ2, l2, y2, z2⟩, st2⟩ := X0.virtualBack hx (y := M21) (z := M21) hown (mvT hZ (tw64 hw)) (mvT hZ (tw65 hw)) (notFace_of_selects (args := #[]) (mvT hZ (tw67 hw))) (mvT hZ (tw67 hw)) (mvT hZ (tw66 hw)) (by decide) (backOf (W := 0) (rmLV2 l Z a0 hw [] a dl dl_k dr dr_k ((0 : Int64)) tb2 tc1 tc2 di di_k ta1 ta2 hs n0 Z0 E_a F_instants V_di F_lefts F_rights V_dl V_dr) hZ (tw68 hw) (tw3 hw) (by decide) (by decide)) q2a q2c (g := (mkF m 388 (LA p1 p2 p3 p4 p5 (.val (.int nv5)) tu0 tu1 tu2 vu0 vu1 vu2 (.val (.ref x20)) (.val (.ref x21)) (.val (.ref ea)) (.val (.int (4 : Int32))) (.val (.ref a)) .unset) [(.ref a)])) rfl (by rw [hml]; rfl) (Steps.refl _) (argsL := []) (rest := []) (lenOf pd____D rfl) rfl (own_mr rfl) (hb hby at_388) (fun _ _ => ⟨rfl, e0, (by decide : 20 + 1 ≤ _), (by decide : 120 + 4 ≤ _)⟩)
 dsimp only [Pt.U, Pt.locs, Pt.cells, Pt.slots] at X2 l2 y2 z2 st2 hQ2
 rw [l2, y2, z2] at X2
 obtain ⟨b2, b_k2, rfl, N2q, K2, gb2, sb2, P2_0⟩ := hQ2
 have N2 := Fr.app N0 N2q
 replace E_a := E_a.keep K2
 replace F_instants := F_instants.keep K2 nin0
 replace F_lefts := F_lefts.keep K2 nin0
 replace F_rights := F_rights.keep K2 nin0
 replace V_di := V_di.keep K2 nin0
 replace V_dl := V_dl.keep K2 nin0
 replace V_dr := V_dr.keep K2 nin0
 replace V_ea := V_ea.keep K2 nin0
 have Zs3 := Nat.le_trans Z0 K2.1
 have KC3 := KC0.trans K2 all0
 have szb2 := Nat.le_trans KC0.1 sb2
 obtain ⟨cl4, Ar4, aq4, aS4, aN4, aH4, aG4⟩ := id P2_0
 obtain ⟨_, _, ⟨T5, L5, k5, n5⟩, -, X5, ⟨Lc5, hQ5, l5, y5, z5⟩, st5⟩ := Jvm.LawKit.callS X2 hx (y := M22) hown (mvT hZ (tw69 hw)) (mvT hZ (tw70 hw)) (mvT hZ (tw71 hw)) (mvT hZ (tw72 hw)) (by decide) (backOf (W := 0) (rmSY l Z a0 hw [] b2 ea ((4 : Int32)) ((0 : Int32)) b_k2 ea_k ((4 : Int32)) ((6 : Int32)) ([dZ, (dV tc1), (dV tb2), (dV tc2)]) ([dZ, (dV tc1), (dV tb2), (dV tc2), dZ, dZ]) ((0 : Int64)) T2.heap n0 Zs3 P2_0 V_ea (by decide) (by decide) (by decide) rfl rfl own_b0) hZ (tw72 hw) (tw71 hw) (by decide) (by decide)) (g := (mkF m 410 (LA p1 p2 p3 p4 p5 (.val (.int nv5)) tu0 tu1 tu2 vu0 vu1 vu2 (.val (.ref x20)) (.val (.ref x21)) (.val (.ref ea)) (.val (.int (4 : Int32))) (.val (.ref a)) (.val (.ref b2))) [(.int (0 : Int32)), (.int (4 : Int32)), (.ref ea), (.ref b2)])) rfl (by rw [hml]; rfl) (argsL := [(.ref b2), (.ref ea), (.int (4 : Int32)), (.int (0 : Int32))]) (rest := []) (lenOf pd___D_DII_Z rfl) rfl (own_mr rfl) (hb hby at_410) (fun _ _ => ⟨rfl, rfl, (by decide : 21 + 0 ≤ _), (by decide : 124 + 0 ≤ _)⟩)
 dsimp only [Pt.U, Pt.locs, Pt.cells, Pt.slots] at X5 l5 y5 z5 st5 hQ5
 rw [l5, y5, z5] at X5
 obtain ⟨rfl, N5q, hh5⟩ := hQ5
 have N5 := Fr.app N2 N5q
 obtain ⟨_, _, ⟨T6, L6, k6, n6⟩, -, X6, ⟨Lc6, hQ6, l6, y6, z6⟩, st6⟩ := Jvm.LawKit.callS X5 hx (y := M22) hown (mvT hZ (tw69 hw)) (mvT hZ (tw70 hw)) (mvT hZ (tw71 hw)) (mvT hZ (tw72 hw)) (by decide) (backOf (W := 0) (rmSY l Z a0 hw [] b2 ea ((4 : Int32)) ((1 : Int32)) b_k2 ea_k ((4 : Int32)) ((6 : Int32)) ([dZ, (dV tc1), (dV tb2), (dV tc2)]) ([dZ, (dV tc1), (dV tb2), (dV tc2), dZ, dZ]) tc1 T2.heap n0 Zs3 P2_0 V_ea (by decide) (by decide) (by decide) rfl rfl b_tc1) hZ (tw72 hw) (tw71 hw) (by decide) (by decide)) (g := (mkF m 423 (LA p1 p2 p3 p4 p5 (.val (.int nv5)) tu0 tu1 tu2 vu0 vu1 vu2 (.val (.ref x20)) (.val (.ref x21)) (.val (.ref ea)) (.val (.int (4 : Int32))) (.val (.ref a)) (.val (.ref b2))) [(.int (1 : Int32)), (.int (4 : Int32)), (.ref ea), (.ref b2)])) rfl (by rw [hml]; rfl) (argsL := [(.ref b2), (.ref ea), (.int (4 : Int32)), (.int (1 : Int32))]) (rest := []) (lenOf pd___D_DII_Z rfl) rfl (own_mr rfl) (hb hby at_423) (fun _ _ => ⟨rfl, hh5, (by decide : 21 + 0 ≤ _), (by decide : 124 + 0 ≤ _)⟩)
 dsimp only [Pt.U, Pt.locs, Pt.cells, Pt.slots] at X6 l6 y6 z6 st6 hQ6
 rw [l6, y6, z6] at X6
 obtain ⟨rfl, N6q, hh6⟩ := hQ6
 have N6 := Fr.app N5 N6q
 obtain ⟨_, _, ⟨T7, L7, k7, n7⟩, -, X7, ⟨Lc7, hQ7, l7, y7, z7⟩, st7⟩ := Jvm.LawKit.callS X6 hx (y := M22) hown (mvT hZ (tw69 hw)) (mvT hZ (tw70 hw)) (mvT hZ (tw71 hw)) (mvT hZ (tw72 hw)) (by decide) (backOf (W := 0) (rmSY l Z a0 hw [] b2 ea ((4 : Int32)) ((2 : Int32)) b_k2 ea_k ((4 : Int32)) ((6 : Int32)) ([dZ, (dV tc1), (dV tb2), (dV tc2)]) ([dZ, (dV tc1), (dV tb2), (dV tc2), dZ, dZ]) tb2 T2.heap n0 Zs3 P2_0 V_ea (by decide) (by decide) (by decide) rfl rfl b_tb2) hZ (tw72 hw) (tw71 hw) (by decide) (by decide)) (g := (mkF m 436 (LA p1 p2 p3 p4 p5 (.val (.int nv5)) tu0 tu1 tu2 vu0 vu1 vu2 (.val (.ref x20)) (.val (.ref x21)) (.val (.ref ea)) (.val (.int (4 : Int32))) (.val (.ref a)) (.val (.ref b2))) [(.int (2 : Int32)), (.int (4 : Int32)), (.ref ea), (.ref b2)])) rfl (by rw [hml]; rfl) (argsL := [(.ref b2), (.ref ea), (.int (4 : Int32)), (.int (2 : Int32))]) (rest := []) (lenOf pd___D_DII_Z rfl) rfl (own_mr rfl) (hb hby at_436) (fun _ _ => ⟨rfl, hh6, (by decide : 21 + 0 ≤ _), (by decide : 124 + 0 ≤ _)⟩)
 dsimp only [Pt.U, Pt.locs, Pt.cells, Pt.slots] at X7 l7 y7 z7 st7 hQ7
 rw [l7, y7, z7] at X7
 obtain ⟨rfl, N7q, hh7⟩ := hQ7
 have N7 := Fr.app N6 N7q
 obtain ⟨_, _, ⟨T8, L8, k8, n8⟩, -, X8, ⟨Lc8, hQ8, l8, y8, z8⟩, st8⟩ := Jvm.LawKit.callS X7 hx (y := M22) hown (mvT hZ (tw69 hw)) (mvT hZ (tw70 hw)) (mvT hZ (tw71 hw)) (mvT hZ (tw72 hw)) (by decide) (backOf (W := 0) (rmSY l Z a0 hw [] b2 ea ((4 : Int32)) ((3 : Int32)) b_k2 ea_k ((4 : Int32)) ((6 : Int32)) ([dZ, (dV tc1), (dV tb2), (dV tc2)]) ([dZ, (dV tc1), (dV tb2), (dV tc2), dZ, dZ]) tc2 T2.heap n0 Zs3 P2_0 V_ea (by decide) (by decide) (by decide) rfl rfl b_tc2) hZ (tw72 hw) (tw71 hw) (by decide) (by decide)) (g := (mkF m 449 (LA p1 p2 p3 p4 p5 (.val (.int nv5)) tu0 tu1 tu2 vu0 vu1 vu2 (.val (.ref x20)) (.val (.ref x21)) (.val (.ref ea)) (.val (.int (4 : Int32))) (.val (.ref a)) (.val (.ref b2))) [(.int (3 : Int32)), (.int (4 : Int32)), (.ref ea), (.ref b2)])) rfl (by rw [hml]; rfl) (argsL := [(.ref b2), (.ref ea), (.int (4 : Int32)), (.int (3 : Int32))]) (rest := []) (lenOf pd___D_DII_Z rfl) rfl (own_mr rfl) (hb hby at_449) (fun _ _ => ⟨rfl, hh7, (by decide : 21 + 0 ≤ _), (by decide : 124 + 0 ≤ _)⟩)
 dsimp only [Pt.U, Pt.locs, Pt.cells, Pt.slots] at X8 l8 y8 z8 st8 hQ8
 rw [l8, y8, z8] at X8
 obtain ⟨rfl, N8q, hh8⟩ := hQ8
 have N8 := Fr.app N7 N8q
 obtain ⟨_, _, ⟨T9, L9, k9, n9⟩, -, X9, ⟨Lc9, hQ9, l9, y9, z9⟩, st9⟩ := Jvm.LawKit.callS X8 hx (y := M22) hown (mvT hZ (tw69 hw)) (mvT hZ (tw70 hw)) (mvT hZ (tw71 hw)) (mvT hZ (tw72 hw)) (by decide) (backOf (W := 0) (rmSN l Z a0 hw [] b2 ea ((4 : Int32)) ((4 : Int32)) T2.heap n0 Zs3 (by decide)) hZ (tw72 hw) (tw71 hw) (by decide) (by decide)) (g := (mkF m 462 (LA p1 p2 p3 p4 p5 (.val (.int nv5)) tu0 tu1 tu2 vu0 vu1 vu2 (.val (.ref x20)) (.val (.ref x21)) (.val (.ref ea)) (.val (.int (4 : Int32))) (.val (.ref a)) (.val (.ref b2))) [(.int (4 : Int32)), (.int (4 : Int32)), (.ref ea), (.ref b2)])) rfl (by rw [hml]; rfl) (argsL := [(.ref b2), (.ref ea), (.int (4 : Int32)), (.int (4 : Int32))]) (rest := []) (lenOf pd___D_DII_Z rfl) rfl (own_mr rfl) (hb hby at_462) (fun _ _ => ⟨rfl, hh8, (by decide : 21 + 0 ≤ _), (by decide : 124 + 0 ≤ _)⟩)
 dsimp only [Pt.U, Pt.locs, Pt.cells, Pt.slots] at X9 l9 y9 z9 st9 hQ9
 rw [l9, y9, z9] at X9
 obtain ⟨rfl, N9q, hh9⟩ := hQ9
 have N9 := Fr.app N8 N9q
 obtain ⟨_, _, ⟨T10, L10, k10, n10⟩, -, X10, ⟨Lc10, hQ10, l10, y10, z10⟩, st10⟩ := Jvm.LawKit.callS X9 hx (y := M22) hown (mvT hZ (tw69 hw)) (mvT hZ (tw70 hw)) (mvT hZ (tw71 hw)) (mvT hZ (tw72 hw)) (by decide) (backOf (W := 0) (rmSN l Z a0 hw [] b2 ea ((4 : Int32)) ((5 : Int32)) T2.heap n0 Zs3 (by decide)) hZ (tw72 hw) (tw71 hw) (by decide) (by decide)) (g := (mkF m 475 (LA p1 p2 p3 p4 p5 (.val (.int nv5)) tu0 tu1 tu2 vu0 vu1 vu2 (.val (.ref x20)) (.val (.ref x21)) (.val (.ref ea)) (.val (.int (4 : Int32))) (.val (.ref a)) (.val (.ref b2))) [(.int (5 : Int32)), (.int (4 : Int32)), (.ref ea), (.ref b2)])) rfl (by rw [hml]; rfl) (argsL := [(.ref b2), (.ref ea), (.int (4 : Int32)), (.int (5 : Int32))]) (rest := []) (lenOf pd___D_DII_Z rfl) rfl (own_mr rfl) (hb hby at_475) (fun _ _ => ⟨rfl, hh9, (by decide : 21 + 0 ≤ _), (by decide : 124 + 0 ≤ _)⟩)
 dsimp only [Pt.U, Pt.locs, Pt.cells, Pt.slots] at X10 l10 y10 z10 st10 hQ10
 rw [l10, y10, z10] at X10
 obtain ⟨rfl, N10q, hh10⟩ := hQ10
 have N10 := Fr.app N9 N10q
 have pre11 : Pr p e below I0 T10 (mkF m 481 (LA p1 p2 p3 p4 p5 (.val (.int nv5)) tu0 tu1 tu2 vu0 vu1 vu2 (.val (.ref x20)) (.val (.ref x21)) (.val (.ref ea)) (.val (.int (4 : Int32))) (.val (.ref a)) (.val (.ref b2))) []) := by
  intro tg kk
  refine pre0 tg ?_
  refine XS.aload X0.here hx rfl (hb hby at_386) rfl rfl ?_
  refine st2.trans ?_
  refine XS.astore X2.here hx rfl (hb hby at_391) rfl rfl (l' := (LA p1 p2 p3 p4 p5 (.val (.int nv5)) tu0 tu1 tu2 vu0 vu1 vu2 (.val (.ref x20)) (.val (.ref x21)) (.val (.ref ea)) (.val (.int (4 : Int32))) (.val (.ref a)) (.val (.ref b2)))) rfl ?_
  refine XS.aload X2.here hx rfl (hb hby at_393) rfl rfl ?_
  refine X2.arraylength hx Ar4.1 (State.isArrayOf_alike hZ.alike Ar4.2.1) (g := (mkF m 395 (LA p1 p2 p3 p4 p5 (.val (.int nv5)) tu0 tu1 tu2 vu0 vu1 vu2 (.val (.ref x20)) (.val (.ref x21)) (.val (.ref ea)) (.val (.int (4 : Int32))) (.val (.ref a)) (.val (.ref b2))) [(.ref b2)])) rfl rfl (hb hby at_395) _ ?_
  rw [len_of aS4 aN4]
  refine XS.iload X2.here hx rfl (hb hby at_396) rfl ?_
  refine XS.icmpYes X2.here hx rfl (pc0 := 398) (pc' := 403) rfl (hb hby at_398) rfl (XT.ii_eq_t (by decide)) (by decide) (by decide) ?_
  refine XS.aload X2.here hx rfl (hb hby at_403) rfl rfl ?_
  refine XS.aload X2.here hx rfl (hb hby at_405) rfl rfl ?_
  refine XS.iload X2.here hx rfl (hb hby at_407) rfl ?_
  refine XS.iconst X2.here hx rfl (hb hby at_409) ?_
  refine st5 _ ?_
  refine XS.ifNo X5.here hx rfl (hb hby at_413) rfl (XT.i0_eq_f (by decide)) ?_
  refine XS.aload X5.here hx rfl (hb hby at_416) rfl rfl ?_
  refine XS.aload X5.here hx rfl (hb hby at_418) rfl rfl ?_
  refine XS.iload X5.here hx rfl (hb hby at_420) rfl ?_
  refine XS.iconst X5.here hx rfl (hb hby at_422) ?_
  refine st6 _ ?_
  refine XS.ifNo X6.here hx rfl (hb hby at_426) rfl (XT.i0_eq_f (by decide)) ?_
  refine XS.aload X6.here hx rfl (hb hby at_429) rfl rfl ?_
  refine XS.aload X6.here hx rfl (hb hby at_431) rfl rfl ?_
  refine XS.iload X6.here hx rfl (hb hby at_433) rfl ?_
  refine XS.iconst X6.here hx rfl (hb hby at_435) ?_
  refine st7 _ ?_
  refine XS.ifNo X7.here hx rfl (hb hby at_439) rfl (XT.i0_eq_f (by decide)) ?_
  refine XS.aload X7.here hx rfl (hb hby at_442) rfl rfl ?_
  refine XS.aload X7.here hx rfl (hb hby at_444) rfl rfl ?_
  refine XS.iload X7.here hx rfl (hb hby at_446) rfl ?_
  refine XS.iconst X7.here hx rfl (hb hby at_448) ?_
  refine st8 _ ?_
  refine XS.ifNo X8.here hx rfl (hb hby at_452) rfl (XT.i0_eq_f (by decide)) ?_
  refine XS.aload X8.here hx rfl (hb hby at_455) rfl rfl ?_
  refine XS.aload X8.here hx rfl (hb hby at_457) rfl rfl ?_
  refine XS.iload X8.here hx rfl (hb hby at_459) rfl ?_
  refine XS.iconst X8.here hx rfl (hb hby at_461) ?_
  refine st9 _ ?_
  refine XS.ifNo X9.here hx rfl (hb hby at_465) rfl (XT.i0_eq_f (by decide)) ?_
  refine XS.aload X9.here hx rfl (hb hby at_468) rfl rfl ?_
  refine XS.aload X9.here hx rfl (hb hby at_470) rfl rfl ?_
  refine XS.iload X9.here hx rfl (hb hby at_472) rfl ?_
  refine XS.iconst X9.here hx rfl (hb hby at_474) ?_
  refine st10 _ ?_
  refine XS.ifNo X10.here hx rfl (hb hby at_478) rfl (XT.i0_eq_f (by decide)) ?_
  exact kk
 exact ⟨T10, _, T2.heap, b2, X10, N10, hh10, Zs3, KC3, pre11⟩
set_option maxRecDepth 65536 in
set_option maxHeartbeats 40000000 in
theorem sT3 {p : Program} {l : Launch} {e : Env} {s : State} {m : MethodId} {below : List Frame} {meth : Method} {c : Code} {T0 : State} {lo0 : List Loc} {Z : State} {a0 : Array Value} (hw : HW a0 Z) (hx : p.tables.exec = Jvm.exec) (hby : c.code = code) (hml : c.maxLocals = 26) (hZ : Z.Warmed39 s.vm) (hown : s.vm.findClass "com/example/narrow_bound/narrowbound/witness/CumulativeFunctionLevelsPinLaw" = some m.cls) (hnm : meth.name = "law") (p1 : Int32) (p2 : Int32) (p3 : Int32) (p4 : Int32) (p5 : Int32) (tu0 : Int64) (tu1 : Int64) (tu2 : Int64) (vu0 : Int64) (vu1 : Int64) (vu2 : Int64) (nv5 : Int32) (x20 : Addr) (x21 : Addr) (ea : Addr) (ea_k : ClassId) (a : Addr) (di : Addr) (di_k : ClassId) (dl : Addr) (dl_k : ClassId) (dr : Addr) (dr_k : ClassId) (ta1 : Int64) (ta2 : Int64) (ta3 : Int64) (tb2 : Int64) (tb3 : Int64) (tc1 : Int64) (tc2 : Int64) (tc3 : Int64) {h0 hs : Heap} {n0 : Nat} (X0 : Stand p l e room_1 s m #[(.int p1), (.int p2), (.int p3), (.int p4), (.int p5)] below meth c T0 lo0 20 120) (N0 : Fr n0 lo0) (e0 : T0.heap = hs) (Z0 : n0 ≤ hs.size) (KC0 : Keep h0 hs []) (E_a : Exa Z hs a cF) (F_instants : Fld Z hs a cF "instants" "[D" (.ref di)) (F_lefts : Fld Z hs a cF "lefts" "[D" (.ref dl)) (F_rights : Fld Z hs a cF "rights" "[D" (.ref dr)) (V_di : Arv Z hs di di_k .double (3 : Int32) [(dV ta1), (dV ta2), (dV ta3)] dZ) (V_dl : Arv Z hs dl dl_k .double (3 : Int32) [dZ, (dV tb2), (dV tb3)] dZ) (V_dr : Arv Z hs dr dr_k .double (3 : Int32) [(dV tc1), (dV tc2), (dV tc3)] dZ) (V_ea : Arv Z hs ea ea_k .double (6 : Int32) [dZ, (dV tc1), (dV tb2), (dV tc2), (dV tb3), (dV tc3)] dZ) (b_tb2 : B53 tb2) (b_tb3 : B53 tb3) (b_tc1 : B53 tc1) (b_tc2 : B53 tc2) (b_tc3 : B53 tc3) :
    ∃ (T1 : State) (lo1 : List Loc) (h1 : Heap) (rb : Addr), Stand p l e room_1 s m #[(.int p1), (.int p2), (.int p3), (.int p4), (.int p5)] below meth c T1 lo1 21 126 ∧ Fr n0 lo1 ∧ T1.heap = h1 ∧ n0 ≤ h1.size ∧ Keep h0 h1 [] ∧ Pr p e below (T0.setTop (mkF m 386 (LA p1 p2 p3 p4 p5 (.val (.int nv5)) tu0 tu1 tu2 vu0 vu1 vu2 (.val (.ref x20)) (.val (.ref x21)) (.val (.ref ea)) (.val (.int (6 : Int32))) (.val (.ref a)) .unset) [])) T1 (mkF m 481 (LA p1 p2 p3 p4 p5 (.val (.int nv5)) tu0 tu1 tu2 vu0 vu1 vu2 (.val (.ref x20)) (.val (.ref x21)) (.val (.ref ea)) (.val (.int (6 : Int32))) (.val (.ref a)) (.val (.ref rb))) []) := by
 have pre0 : Pr p e below (T0.setTop (mkF m 386 (LA p1 p2 p3 p4 p5 (.val (.int nv5)) tu0 tu1 tu2 vu0 vu1 vu2 (.val (.ref x20)) (.val (.ref x21)) (.val (.ref ea)) (.val (.int (6 : Int32))) (.val (.ref a)) .unset) [])) T0 (mkF m 386 (LA p1 p2 p3 p4 p5 (.val (.int nv5)) tu0 tu1 tu2 vu0 vu1 vu2 (.val (.ref x20)) (.val (.ref x21)) (.val (.ref ea)) (.val (.int (6 : Int32))) (.val (.ref a)) .unset) []) := fun _ kk => kk
 generalize hI : T0.setTop (mkF m 386 (LA p1 p2 p3 p4 p5 (.val (.int nv5)) tu0 tu1 tu2 vu0 vu1 vu2 (.val (.ref x20)) (.val (.ref x21)) (.val (.ref ea)) (.val (.int (6 : Int32))) (.val (.ref a)) .unset) []) = I0 at pre0 ⊢
 obtain ⟨cq2, kq2, q2a, q2b, q2c⟩ := isOf hZ e0 E_a
 obtain ⟨_, _, ⟨T2, L2, k2, n2⟩, -, X2, ⟨Lc2, hQ2, l2, y2, z2⟩, st2⟩ := X0.virtualBack hx (y := M21) (z := M21) hown (mvT hZ (tw64 hw)) (mvT hZ (tw65 hw)) (notFace_of_selects (args := #[]) (mvT hZ (tw67 hw))) (mvT hZ (tw67 hw)) (mvT hZ (tw66 hw)) (by decide) (backOf (W := 0) (rmLV3 l Z a0 hw [] a dl dl_k dr dr_k ((0 : Int64)) tb2 tb3 tc1 tc2 tc3 di di_k ta1 ta2 ta3 hs n0 Z0 E_a F_instants V_di F_lefts F_rights V_dl V_dr) hZ (tw68 hw) (tw3 hw) (by decide) (by decide)) q2a q2c (g := (mkF m 388 (LA p1 p2 p3 p4 p5 (.val (.int nv5)) tu0 tu1 tu2 vu0 vu1 vu2 (.val (.ref x20)) (.val (.ref x21)) (.val (.ref ea)) (.val (.int (6 : Int32))) (.val (.ref a)) .unset) [(.ref a)])) rfl (by rw [hml]; rfl) (Steps.refl _) (argsL := []) (rest := []) (lenOf pd____D rfl) rfl (own_mr rfl) (hb hby at_388) (fun _ _ => ⟨rfl, e0, (by decide : 20 + 1 ≤ _), (by decide : 120 + 6 ≤ _)⟩)
 dsimp only [Pt.U, Pt.locs, Pt.cells, Pt.slots] at X2 l2 y2 z2 st2 hQ2
 rw [l2, y2, z2] at X2
 obtain ⟨b2, b_k2, rfl, N2q, K2, gb2, sb2, P2_0⟩ := hQ2
 have N2 := Fr.app N0 N2q
 replace E_a := E_a.keep K2
 replace F_instants := F_instants.keep K2 nin0
 replace F_lefts := F_lefts.keep K2 nin0
 replace F_rights := F_rights.keep K2 nin0
 replace V_di := V_di.keep K2 nin0
 replace V_dl := V_dl.keep K2 nin0
 replace V_dr := V_dr.keep K2 nin0
 replace V_ea := V_ea.keep K2 nin0
 have Zs3 := Nat.le_trans Z0 K2.1
 have KC3 := KC0.trans K2 all0
 have szb2 := Nat.le_trans KC0.1 sb2
 obtain ⟨cl4, Ar4, aq4, aS4, aN4, aH4, aG4⟩ := id P2_0
 obtain ⟨_, _, ⟨T5, L5, k5, n5⟩, -, X5, ⟨Lc5, hQ5, l5, y5, z5⟩, st5⟩ := Jvm.LawKit.callS X2 hx (y := M22) hown (mvT hZ (tw69 hw)) (mvT hZ (tw70 hw)) (mvT hZ (tw71 hw)) (mvT hZ (tw72 hw)) (by decide) (backOf (W := 0) (rmSY l Z a0 hw [] b2 ea ((6 : Int32)) ((0 : Int32)) b_k2 ea_k ((6 : Int32)) ((6 : Int32)) ([dZ, (dV tc1), (dV tb2), (dV tc2), (dV tb3), (dV tc3)]) ([dZ, (dV tc1), (dV tb2), (dV tc2), (dV tb3), (dV tc3)]) ((0 : Int64)) T2.heap n0 Zs3 P2_0 V_ea (by decide) (by decide) (by decide) rfl rfl own_b0) hZ (tw72 hw) (tw71 hw) (by decide) (by decide)) (g := (mkF m 410 (LA p1 p2 p3 p4 p5 (.val (.int nv5)) tu0 tu1 tu2 vu0 vu1 vu2 (.val (.ref x20)) (.val (.ref x21)) (.val (.ref ea)) (.val (.int (6 : Int32))) (.val (.ref a)) (.val (.ref b2))) [(.int (0 : Int32)), (.int (6 : Int32)), (.ref ea), (.ref b2)])) rfl (by rw [hml]; rfl) (argsL := [(.ref b2), (.ref ea), (.int (6 : Int32)), (.int (0 : Int32))]) (rest := []) (lenOf pd___D_DII_Z rfl) rfl (own_mr rfl) (hb hby at_410) (fun _ _ => ⟨rfl, rfl, (by decide : 21 + 0 ≤ _), (by decide : 126 + 0 ≤ _)⟩)
 dsimp only [Pt.U, Pt.locs, Pt.cells, Pt.slots] at X5 l5 y5 z5 st5 hQ5
 rw [l5, y5, z5] at X5
 obtain ⟨rfl, N5q, hh5⟩ := hQ5
 have N5 := Fr.app N2 N5q
 obtain ⟨_, _, ⟨T6, L6, k6, n6⟩, -, X6, ⟨Lc6, hQ6, l6, y6, z6⟩, st6⟩ := Jvm.LawKit.callS X5 hx (y := M22) hown (mvT hZ (tw69 hw)) (mvT hZ (tw70 hw)) (mvT hZ (tw71 hw)) (mvT hZ (tw72 hw)) (by decide) (backOf (W := 0) (rmSY l Z a0 hw [] b2 ea ((6 : Int32)) ((1 : Int32)) b_k2 ea_k ((6 : Int32)) ((6 : Int32)) ([dZ, (dV tc1), (dV tb2), (dV tc2), (dV tb3), (dV tc3)]) ([dZ, (dV tc1), (dV tb2), (dV tc2), (dV tb3), (dV tc3)]) tc1 T2.heap n0 Zs3 P2_0 V_ea (by decide) (by decide) (by decide) rfl rfl b_tc1) hZ (tw72 hw) (tw71 hw) (by decide) (by decide)) (g := (mkF m 423 (LA p1 p2 p3 p4 p5 (.val (.int nv5)) tu0 tu1 tu2 vu0 vu1 vu2 (.val (.ref x20)) (.val (.ref x21)) (.val (.ref ea)) (.val (.int (6 : Int32))) (.val (.ref a)) (.val (.ref b2))) [(.int (1 : Int32)), (.int (6 : Int32)), (.ref ea), (.ref b2)])) rfl (by rw [hml]; rfl) (argsL := [(.ref b2), (.ref ea), (.int (6 : Int32)), (.int (1 : Int32))]) (rest := []) (lenOf pd___D_DII_Z rfl) rfl (own_mr rfl) (hb hby at_423) (fun _ _ => ⟨rfl, hh5, (by decide : 21 + 0 ≤ _), (by decide : 126 + 0 ≤ _)⟩)
 dsimp only [Pt.U, Pt.locs, Pt.cells, Pt.slots] at X6 l6 y6 z6 st6 hQ6
 rw [l6, y6, z6] at X6
 obtain ⟨rfl, N6q, hh6⟩ := hQ6
 have N6 := Fr.app N5 N6q
 obtain ⟨_, _, ⟨T7, L7, k7, n7⟩, -, X7, ⟨Lc7, hQ7, l7, y7, z7⟩, st7⟩ := Jvm.LawKit.callS X6 hx (y := M22) hown (mvT hZ (tw69 hw)) (mvT hZ (tw70 hw)) (mvT hZ (tw71 hw)) (mvT hZ (tw72 hw)) (by decide) (backOf (W := 0) (rmSY l Z a0 hw [] b2 ea ((6 : Int32)) ((2 : Int32)) b_k2 ea_k ((6 : Int32)) ((6 : Int32)) ([dZ, (dV tc1), (dV tb2), (dV tc2), (dV tb3), (dV tc3)]) ([dZ, (dV tc1), (dV tb2), (dV tc2), (dV tb3), (dV tc3)]) tb2 T2.heap n0 Zs3 P2_0 V_ea (by decide) (by decide) (by decide) rfl rfl b_tb2) hZ (tw72 hw) (tw71 hw) (by decide) (by decide)) (g := (mkF m 436 (LA p1 p2 p3 p4 p5 (.val (.int nv5)) tu0 tu1 tu2 vu0 vu1 vu2 (.val (.ref x20)) (.val (.ref x21)) (.val (.ref ea)) (.val (.int (6 : Int32))) (.val (.ref a)) (.val (.ref b2))) [(.int (2 : Int32)), (.int (6 : Int32)), (.ref ea), (.ref b2)])) rfl (by rw [hml]; rfl) (argsL := [(.ref b2), (.ref ea), (.int (6 : Int32)), (.int (2 : Int32))]) (rest := []) (lenOf pd___D_DII_Z rfl) rfl (own_mr rfl) (hb hby at_436) (fun _ _ => ⟨rfl, hh6, (by decide : 21 + 0 ≤ _), (by decide : 126 + 0 ≤ _)⟩)
 dsimp only [Pt.U, Pt.locs, Pt.cells, Pt.slots] at X7 l7 y7 z7 st7 hQ7
 rw [l7, y7, z7] at X7
 obtain ⟨rfl, N7q, hh7⟩ := hQ7
 have N7 := Fr.app N6 N7q
 obtain ⟨_, _, ⟨T8, L8, k8, n8⟩, -, X8, ⟨Lc8, hQ8, l8, y8, z8⟩, st8⟩ := Jvm.LawKit.callS X7 hx (y := M22) hown (mvT hZ (tw69 hw)) (mvT hZ (tw70 hw)) (mvT hZ (tw71 hw)) (mvT hZ (tw72 hw)) (by decide) (backOf (W := 0) (rmSY l Z a0 hw [] b2 ea ((6 : Int32)) ((3 : Int32)) b_k2 ea_k ((6 : Int32)) ((6 : Int32)) ([dZ, (dV tc1), (dV tb2), (dV tc2), (dV tb3), (dV tc3)]) ([dZ, (dV tc1), (dV tb2), (dV tc2), (dV tb3), (dV tc3)]) tc2 T2.heap n0 Zs3 P2_0 V_ea (by decide) (by decide) (by decide) rfl rfl b_tc2) hZ (tw72 hw) (tw71 hw) (by decide) (by decide)) (g := (mkF m 449 (LA p1 p2 p3 p4 p5 (.val (.int nv5)) tu0 tu1 tu2 vu0 vu1 vu2 (.val (.ref x20)) (.val (.ref x21)) (.val (.ref ea)) (.val (.int (6 : Int32))) (.val (.ref a)) (.val (.ref b2))) [(.int (3 : Int32)), (.int (6 : Int32)), (.ref ea), (.ref b2)])) rfl (by rw [hml]; rfl) (argsL := [(.ref b2), (.ref ea), (.int (6 : Int32)), (.int (3 : Int32))]) (rest := []) (lenOf pd___D_DII_Z rfl) rfl (own_mr rfl) (hb hby at_449) (fun _ _ => ⟨rfl, hh7, (by decide : 21 + 0 ≤ _), (by decide : 126 + 0 ≤ _)⟩)
 dsimp only [Pt.U, Pt.locs, Pt.cells, Pt.slots] at X8 l8 y8 z8 st8 hQ8
 rw [l8, y8, z8] at X8
 obtain ⟨rfl, N8q, hh8⟩ := hQ8
 have N8 := Fr.app N7 N8q
 obtain ⟨_, _, ⟨T9, L9, k9, n9⟩, -, X9, ⟨Lc9, hQ9, l9, y9, z9⟩, st9⟩ := Jvm.LawKit.callS X8 hx (y := M22) hown (mvT hZ (tw69 hw)) (mvT hZ (tw70 hw)) (mvT hZ (tw71 hw)) (mvT hZ (tw72 hw)) (by decide) (backOf (W := 0) (rmSY l Z a0 hw [] b2 ea ((6 : Int32)) ((4 : Int32)) b_k2 ea_k ((6 : Int32)) ((6 : Int32)) ([dZ, (dV tc1), (dV tb2), (dV tc2), (dV tb3), (dV tc3)]) ([dZ, (dV tc1), (dV tb2), (dV tc2), (dV tb3), (dV tc3)]) tb3 T2.heap n0 Zs3 P2_0 V_ea (by decide) (by decide) (by decide) rfl rfl b_tb3) hZ (tw72 hw) (tw71 hw) (by decide) (by decide)) (g := (mkF m 462 (LA p1 p2 p3 p4 p5 (.val (.int nv5)) tu0 tu1 tu2 vu0 vu1 vu2 (.val (.ref x20)) (.val (.ref x21)) (.val (.ref ea)) (.val (.int (6 : Int32))) (.val (.ref a)) (.val (.ref b2))) [(.int (4 : Int32)), (.int (6 : Int32)), (.ref ea), (.ref b2)])) rfl (by rw [hml]; rfl) (argsL := [(.ref b2), (.ref ea), (.int (6 : Int32)), (.int (4 : Int32))]) (rest := []) (lenOf pd___D_DII_Z rfl) rfl (own_mr rfl) (hb hby at_462) (fun _ _ => ⟨rfl, hh8, (by decide : 21 + 0 ≤ _), (by decide : 126 + 0 ≤ _)⟩)
 dsimp only [Pt.U, Pt.locs, Pt.cells, Pt.slots] at X9 l9 y9 z9 st9 hQ9
 rw [l9, y9, z9] at X9
 obtain ⟨rfl, N9q, hh9⟩ := hQ9
 have N9 := Fr.app N8 N9q
 obtain ⟨_, _, ⟨T10, L10, k10, n10⟩, -, X10, ⟨Lc10, hQ10, l10, y10, z10⟩, st10⟩ := Jvm.LawKit.callS X9 hx (y := M22) hown (mvT hZ (tw69 hw)) (mvT hZ (tw70 hw)) (mvT hZ (tw71 hw)) (mvT hZ (tw72 hw)) (by decide) (backOf (W := 0) (rmSY l Z a0 hw [] b2 ea ((6 : Int32)) ((5 : Int32)) b_k2 ea_k ((6 : Int32)) ((6 : Int32)) ([dZ, (dV tc1), (dV tb2), (dV tc2), (dV tb3), (dV tc3)]) ([dZ, (dV tc1), (dV tb2), (dV tc2), (dV tb3), (dV tc3)]) tc3 T2.heap n0 Zs3 P2_0 V_ea (by decide) (by decide) (by decide) rfl rfl b_tc3) hZ (tw72 hw) (tw71 hw) (by decide) (by decide)) (g := (mkF m 475 (LA p1 p2 p3 p4 p5 (.val (.int nv5)) tu0 tu1 tu2 vu0 vu1 vu2 (.val (.ref x20)) (.val (.ref x21)) (.val (.ref ea)) (.val (.int (6 : Int32))) (.val (.ref a)) (.val (.ref b2))) [(.int (5 : Int32)), (.int (6 : Int32)), (.ref ea), (.ref b2)])) rfl (by rw [hml]; rfl) (argsL := [(.ref b2), (.ref ea), (.int (6 : Int32)), (.int (5 : Int32))]) (rest := []) (lenOf pd___D_DII_Z rfl) rfl (own_mr rfl) (hb hby at_475) (fun _ _ => ⟨rfl, hh9, (by decide : 21 + 0 ≤ _), (by decide : 126 + 0 ≤ _)⟩)
 dsimp only [Pt.U, Pt.locs, Pt.cells, Pt.slots] at X10 l10 y10 z10 st10 hQ10
 rw [l10, y10, z10] at X10
 obtain ⟨rfl, N10q, hh10⟩ := hQ10
 have N10 := Fr.app N9 N10q
 have pre11 : Pr p e below I0 T10 (mkF m 481 (LA p1 p2 p3 p4 p5 (.val (.int nv5)) tu0 tu1 tu2 vu0 vu1 vu2 (.val (.ref x20)) (.val (.ref x21)) (.val (.ref ea)) (.val (.int (6 : Int32))) (.val (.ref a)) (.val (.ref b2))) []) := by
  intro tg kk
  refine pre0 tg ?_
  refine XS.aload X0.here hx rfl (hb hby at_386) rfl rfl ?_
  refine st2.trans ?_
  refine XS.astore X2.here hx rfl (hb hby at_391) rfl rfl (l' := (LA p1 p2 p3 p4 p5 (.val (.int nv5)) tu0 tu1 tu2 vu0 vu1 vu2 (.val (.ref x20)) (.val (.ref x21)) (.val (.ref ea)) (.val (.int (6 : Int32))) (.val (.ref a)) (.val (.ref b2)))) rfl ?_
  refine XS.aload X2.here hx rfl (hb hby at_393) rfl rfl ?_
  refine X2.arraylength hx Ar4.1 (State.isArrayOf_alike hZ.alike Ar4.2.1) (g := (mkF m 395 (LA p1 p2 p3 p4 p5 (.val (.int nv5)) tu0 tu1 tu2 vu0 vu1 vu2 (.val (.ref x20)) (.val (.ref x21)) (.val (.ref ea)) (.val (.int (6 : Int32))) (.val (.ref a)) (.val (.ref b2))) [(.ref b2)])) rfl rfl (hb hby at_395) _ ?_
  rw [len_of aS4 aN4]
  refine XS.iload X2.here hx rfl (hb hby at_396) rfl ?_
  refine XS.icmpYes X2.here hx rfl (pc0 := 398) (pc' := 403) rfl (hb hby at_398) rfl (XT.ii_eq_t (by decide)) (by decide) (by decide) ?_
  refine XS.aload X2.here hx rfl (hb hby at_403) rfl rfl ?_
  refine XS.aload X2.here hx rfl (hb hby at_405) rfl rfl ?_
  refine XS.iload X2.here hx rfl (hb hby at_407) rfl ?_
  refine XS.iconst X2.here hx rfl (hb hby at_409) ?_
  refine st5 _ ?_
  refine XS.ifNo X5.here hx rfl (hb hby at_413) rfl (XT.i0_eq_f (by decide)) ?_
  refine XS.aload X5.here hx rfl (hb hby at_416) rfl rfl ?_
  refine XS.aload X5.here hx rfl (hb hby at_418) rfl rfl ?_
  refine XS.iload X5.here hx rfl (hb hby at_420) rfl ?_
  refine XS.iconst X5.here hx rfl (hb hby at_422) ?_
  refine st6 _ ?_
  refine XS.ifNo X6.here hx rfl (hb hby at_426) rfl (XT.i0_eq_f (by decide)) ?_
  refine XS.aload X6.here hx rfl (hb hby at_429) rfl rfl ?_
  refine XS.aload X6.here hx rfl (hb hby at_431) rfl rfl ?_
  refine XS.iload X6.here hx rfl (hb hby at_433) rfl ?_
  refine XS.iconst X6.here hx rfl (hb hby at_435) ?_
  refine st7 _ ?_
  refine XS.ifNo X7.here hx rfl (hb hby at_439) rfl (XT.i0_eq_f (by decide)) ?_
  refine XS.aload X7.here hx rfl (hb hby at_442) rfl rfl ?_
  refine XS.aload X7.here hx rfl (hb hby at_444) rfl rfl ?_
  refine XS.iload X7.here hx rfl (hb hby at_446) rfl ?_
  refine XS.iconst X7.here hx rfl (hb hby at_448) ?_
  refine st8 _ ?_
  refine XS.ifNo X8.here hx rfl (hb hby at_452) rfl (XT.i0_eq_f (by decide)) ?_
  refine XS.aload X8.here hx rfl (hb hby at_455) rfl rfl ?_
  refine XS.aload X8.here hx rfl (hb hby at_457) rfl rfl ?_
  refine XS.iload X8.here hx rfl (hb hby at_459) rfl ?_
  refine XS.iconst X8.here hx rfl (hb hby at_461) ?_
  refine st9 _ ?_
  refine XS.ifNo X9.here hx rfl (hb hby at_465) rfl (XT.i0_eq_f (by decide)) ?_
  refine XS.aload X9.here hx rfl (hb hby at_468) rfl rfl ?_
  refine XS.aload X9.here hx rfl (hb hby at_470) rfl rfl ?_
  refine XS.iload X9.here hx rfl (hb hby at_472) rfl ?_
  refine XS.iconst X9.here hx rfl (hb hby at_474) ?_
  refine st10 _ ?_
  refine XS.ifNo X10.here hx rfl (hb hby at_478) rfl (XT.i0_eq_f (by decide)) ?_
  exact kk
 exact ⟨T10, _, T2.heap, b2, X10, N10, hh10, Zs3, KC3, pre11⟩
theorem pn_0 : plainName "com/example/narrow_bound/narrowbound/witness/CumulativeFunctionLevelsPinLaw" = true := by first | (simp [plainName, overriddenIn]; done) | decide +kernel
theorem pd___D_D_V : parseMethodDescriptor "([D[D)V" = some ⟨[(.array .double), (.array .double)], none⟩ := by decide +kernel
theorem ef0_IIIII (m : MethodId) (x0 : Int32) (x1 : Int32) (x2 : Int32) (x3 : Int32) (x4 : Int32) : entryFrame m #[(.int x0), (.int x1), (.int x2), (.int x3), (.int x4)] maxLocals = mkF m 0 #[.val (.int x0), .val (.int x1), .val (.int x2), .val (.int x3), .val (.int x4), .unset, .unset, .unset, .unset, .unset, .unset, .unset, .unset, .unset, .unset, .unset, .unset, .unset, .unset, .unset, .unset, .unset, .unset, .unset, .unset, .unset] [] := by first | (simp [entryFrame, mkF, argsToLocals, Value.category, maxLocals]; done) | rfl
def Q0 (Z : State) (p1 : Int32) (p2 : Int32) (p3 : Int32) (p4 : Int32) (p5 : Int32) (tu0 : Int64) (tu1 : Int64) (tu2 : Int64) (vu0 : Int64) (vu1 : Int64) (vu2 : Int64) (aE : Addr) (kE : ClassId) (aC : Addr) (kC : ClassId) (lC : List Value) (i0 : Addr) (i1 : Addr) (i2 : Addr) (h0 : Heap) (n0 : Nat) (v : Option Value) (h : Heap) (L : List Loc) : Prop := v = some (.int (1 : Int32)) ∧ Fr n0 L
set_option maxRecDepth 65536 in
set_option maxHeartbeats 40000000 in
theorem rm0_0 (l : Launch) (Z : State) (a0 : Array Value) (hw : HW a0 Z) (ws : List Jvm.Cond) (p1 : Int32) (p2 : Int32) (p3 : Int32) (p4 : Int32) (p5 : Int32) (tu0 : Int64) (tu1 : Int64) (tu2 : Int64) (vu0 : Int64) (vu1 : Int64) (vu2 : Int64) (aE : Addr) (kE : ClassId) (aC : Addr) (kC : ClassId) (lC : List Value) (i0 : Addr) (i1 : Addr) (i2 : Addr) (h0 : Heap) (n0 : Nat) (Z0 : n0 ≤ h0.size) (hn : (p1 &&& (3 : Int32)) = (0 : Int32)) (htu0 : tu0 = (((p2 &&& (1023 : Int32)) - (512 : Int32))).toInt64) (htu1 : tu1 = (tu0 + ((p3 &&& (3 : Int32))).toInt64)) (htu2 : tu2 = (tu1 + ((((p3.toUInt32 >>> ((2 : Int32) &&& 31).toUInt32).toInt32) &&& (3 : Int32))).toInt64)) (hvu0 : vu0 = ((p4 &&& (255 : Int32))).toInt64) (hvu1 : vu1 = (vu0 + ((p5 &&& (7 : Int32))).toInt64)) (hvu2 : vu2 = (vu1 + ((((p5.toUInt32 >>> ((3 : Int32) &&& 31).toUInt32).toInt32) &&& (7 : Int32))).toInt64)) (b_tu0 : B53 tu0) (b_tu1 : B53 tu1) (b_tu2 : B53 tu2) (b_vu0 : B53 vu0) (b_vu1 : B53 vu1) (b_vu2 : B53 vu2) (ov0 : ¬ vu0 < (0 : Int64)) (ot1 : ¬ tu1 < tu0) (ov1 : ¬ vu1 < vu0) (ot2 : ¬ tu2 < tu1) (ov2 : ¬ vu2 < vu1) (EN : EnvJ Z h0.size h0 aE kE aC kC lC i0 i1 i2) :
    MetFree l x (head1 (Jvm.Cond.code x code maxLocals ret :: ws) room_1) (fun ar UU => ar = #[(.int p1), (.int p2), (.int p3), (.int p4), (.int p5)] ∧ Z.Warmed39 UU.vm ∧ UU.heap = h0) (fun _ _ _ _ _ => True) (fun _ UU oo UU' => ∃ vv LL, oo = .returned vv ∧ Q0 Z p1 p2 p3 p4 p5 tu0 tu1 tu2 vu0 vu1 vu2 aE kE aC kC lC i0 i1 i2 h0 n0 vv UU'.heap LL ∧ FrameEnd UU oo UU' LL room_1.cells room_1.slots) := by
 refine MetFree.of_bodySF (plainFor_of_name pn_0) hisR ?_
 intro p e s m args below meth c s₁ Bd hml0 hP hK
 obtain ⟨rfl, hZ, hh⟩ := hP
 have hx := Bd.exec
 have hby := Bd.bytes
 have hml : c.maxLocals = 26 := hml0
 have hown : s.vm.findClass "com/example/narrow_bound/narrowbound/witness/CumulativeFunctionLevelsPinLaw" = some m.cls := findClass_of_methodNamed Bd.named
 have hnm := (name_of_methodNamed Bd.named Bd.method).1
 have X0 : Stand p l e room_1 s m #[(.int p1), (.int p2), (.int p3), (.int p4), (.int p5)] below meth c s₁ [] 0 0 := Stand.of_body Bd
 have e0 : s₁.heap = h0 := by rw [← hh, Bd.state]; rfl
 have N0 := Fr.nil n0
 have KC0 : Keep h0 h0 [] := Keep.refl h0 []
 have pre0 : ∀ tgt, Steps p.tables e below (s₁.setTop (mkF m 0 #[.val (.int p1), .val (.int p2), .val (.int p3), .val (.int p4), .val (.int p5), .unset, .unset, .unset, .unset, .unset, .unset, .unset, .unset, .unset, .unset, .unset, .unset, .unset, .unset, .unset, .unset, .unset, .unset, .unset, .unset, .unset] [])) tgt → Steps p.tables e below (s₁.setTop (entryFrame m #[(.int p1), (.int p2), (.int p3), (.int p4), (.int p5)] maxLocals)) tgt := fun tgt kk => castTop (ef0_IIIII m (p1) (p2) (p3) (p4) (p5)) kk
 have hkB := Nat.le_refl h0.size
 generalize hI : s₁.setTop (entryFrame m #[(.int p1), (.int p2), (.int p3), (.int p4), (.int p5)] maxLocals) = I0 at pre0 ⊢
 obtain ⟨T1, lo1, H1, ea1, ea_k1, X1, N1, e1, Zs1, KC1, P1_0, P1_1, o1_0, o1_1, st1⟩ := sP hw hx hby hml hZ hown hnm p1 p2 p3 p4 p5 tu0 tu1 tu2 vu0 vu1 vu2 (h0.size) aE kE aC kC lC i0 i1 i2 X0 N0 e0 Z0 KC0 htu0 htu1 htu2 hvu0 hvu1 hvu2 b_tu0 b_tu1 b_tu2 b_vu0 b_vu1 b_vu2 EN hkB
 have pre2 : Pr p e below I0 T1 (mkF m 83 (LA p1 p2 p3 p4 p5 (.val (.int (p1 &&& (3 : Int32)))) tu0 tu1 tu2 vu0 vu1 vu2 .unset .unset (.val (.ref ea1)) .unset .unset .unset) []) := by
  intro tg kk
  refine pre0 tg ?_
  refine st1 _ ?_
  exact kk
 rw [hn] at pre2
 obtain ⟨T13, lo13, Hc13, b3, b5, b7, di10, dl10, dr10, di_k10, dl_k10, dr_k10, X13, N13, e13, Zs13, KC13, P1_1_c13, P10_0_c13, P10_1_c13, P10_2_c13, P10_3_c13, P10_4_c13, P10_5_c13, P10_6_c13, gnc13_1, gnc13_2, gnc13_3, gnc13_4, gnc13_5, gnc13_6, szc13_1, szc13_2, szc13_3, szc13_4, szc13_5, szc13_6, nesc13_0, nesc13_1, nesc13_2, pre13⟩ : ∃ (T13 : State) (lo13 : List Loc) (Hc13 : Heap) (b3 : Addr) (b5 : Addr) (b7 : Addr) (di10 : Addr) (dl10 : Addr) (dr10 : Addr) (di_k10 : ClassId) (dl_k10 : ClassId) (dr_k10 : ClassId), Stand p l e room_1 s m #[(.int p1), (.int p2), (.int p3), (.int p4), (.int p5)] below meth c T13 lo13 11 39 ∧ Fr n0 lo13 ∧ T13.heap = Hc13 ∧ n0 ≤ Hc13.size ∧ Keep h0 Hc13 [] ∧ Arv Z Hc13 ea1 ea_k1 .double (6 : Int32) [dZ, dZ, dZ, dZ, dZ, dZ] dZ ∧ Exa Z Hc13 b7 cF ∧ Fld Z Hc13 b7 cF "instants" "[D" (.ref di10) ∧ Fld Z Hc13 b7 cF "lefts" "[D" (.ref dl10) ∧ Fld Z Hc13 b7 cF "rights" "[D" (.ref dr10) ∧ Arv Z Hc13 di10 di_k10 .double (0 : Int32) [] dZ ∧ Arv Z Hc13 dl10 dl_k10 .double (0 : Int32) [] dZ ∧ Arv Z Hc13 dr10 dr_k10 .double (0 : Int32) [] dZ ∧ n0 ≤ b3 ∧ n0 ≤ b5 ∧ n0 ≤ b7 ∧ n0 ≤ di10 ∧ n0 ≤ dl10 ∧ n0 ≤ dr10 ∧ h0.size ≤ b3 ∧ h0.size ≤ b5 ∧ h0.size ≤ b7 ∧ h0.size ≤ di10 ∧ h0.size ≤ dl10 ∧ h0.size ≤ dr10 ∧ ea1 ≠ b7 ∧ b3 ≠ b7 ∧ b5 ≠ b7 ∧ Pr p e below I0 T13 (mkF m 384 (LA p1 p2 p3 p4 p5 (.val (.int (0 : Int32))) tu0 tu1 tu2 vu0 vu1 vu2 (.val (.ref b3)) (.val (.ref b5)) (.val (.ref ea1)) (.val (.int (0 : Int32))) .unset .unset) [(.ref b7)]) := by
  obtain ⟨T3, h3, k3, X3, e3, E3, A3, Ex3, st3⟩ := newPE X1 hx hZ (aty := .double) (tw0 hw) e1 (g := (mkF m 89 (LA p1 p2 p3 p4 p5 (.val (.int (0 : Int32))) tu0 tu1 tu2 vu0 vu1 vu2 .unset .unset (.val (.ref ea1)) .unset .unset .unset) [(.int (0 : Int32))])) rfl (hb hby at_89) rfl (by decide) (cap := 0) (by decide) (by decide) (by decide) (by decide) (ad := "[D") (by decide +kernel)
  obtain ⟨b3, g3⟩ : ∃ z, z = H1.size := ⟨_, rfl⟩
  rw [← g3] at A3 Ex3 st3
  have gn_b3 := own_le Zs1 g3
  have sz_b3 := own_le KC1.1 g3
  replace P1_0 := P1_0.ext E3
  replace P1_1 := P1_1.ext E3
  have Zs4 := Nat.le_trans Zs1 E3.1
  have KC4 := KC1.ext E3
  have V_b3 : Arv Z h3 b3 k3 .double (0 : Int32) [] dZ := (Arv.newD A3 (by decide)).pad (pad_rep [] dZ 0)
  have E_b3 : Exa Z h3 b3 "[D" := Ex3
  obtain ⟨T5, h5, k5, X5, e5, E5, A5, Ex5, st5⟩ := newPE X3 hx hZ (aty := .double) (tw0 hw) e3 (g := (mkF m 94 (LA p1 p2 p3 p4 p5 (.val (.int (0 : Int32))) tu0 tu1 tu2 vu0 vu1 vu2 (.val (.ref b3)) .unset (.val (.ref ea1)) .unset .unset .unset) [(.int (0 : Int32))])) rfl (hb hby at_94) rfl (by decide) (cap := 0) (by decide) (by decide) (by decide) (by decide) (ad := "[D") (by decide +kernel)
  obtain ⟨b5, g5⟩ : ∃ z, z = h3.size := ⟨_, rfl⟩
  rw [← g5] at A5 Ex5 st5
  have gn_b5 := own_le Zs4 g5
  have sz_b5 := own_le KC4.1 g5
  replace P1_0 := P1_0.ext E5
  replace P1_1 := P1_1.ext E5
  replace V_b3 := V_b3.ext E5
  replace E_b3 := E_b3.ext E5
  have Zs6 := Nat.le_trans Zs4 E5.1
  have KC6 := KC4.ext E5
  have V_b5 : Arv Z h5 b5 k5 .double (0 : Int32) [] dZ := (Arv.newD A5 (by decide)).pad (pad_rep [] dZ 0)
  have E_b5 : Exa Z h5 b5 "[D" := Ex5
  obtain ⟨T7, h7, X7, e7, E7, A7, D7, -, st7⟩ := newO X5 hx hZ hown (tw1 hw) (tw2 hw) (tw3 hw) e5 (g := (mkF m 373 (LA p1 p2 p3 p4 p5 (.val (.int (0 : Int32))) tu0 tu1 tu2 vu0 vu1 vu2 (.val (.ref b3)) (.val (.ref b5)) (.val (.ref ea1)) (.val (.int (0 : Int32))) .unset .unset) [])) rfl (hb hby at_373) (by decide) (by decide)
  obtain ⟨b7, g7⟩ : ∃ z, z = h5.size := ⟨_, rfl⟩
  rw [← g7] at A7 D7 st7
  have ne_ea1_b7 := own_ne P1_1.lt g7
  have ne_b3_b7 := own_ne V_b3.lt g7
  have ne_b5_b7 := own_ne V_b5.lt g7
  have gn_b7 := own_le Zs6 g7
  have sz_b7 := own_le KC6.1 g7
  replace P1_0 := P1_0.ext E7
  replace P1_1 := P1_1.ext E7
  replace V_b3 := V_b3.ext E7
  replace E_b3 := E_b3.ext E7
  replace V_b5 := V_b5.ext E7
  replace E_b5 := E_b5.ext E7
  have Zs8 := Nat.le_trans Zs6 E7.1
  have KC8 := KC6.ext E7
  have E_b7 : Exa Z h7 b7 cF := A7
  have F_times_b7 : Fld Z h7 b7 cF "times" "[D" .null := D7 (Or.inr (tw20 hw)) (ty := (.array .double)) (by decide)
  have F_values_b7 : Fld Z h7 b7 cF "values" "[D" .null := D7 (Or.inr (tw22 hw)) (ty := (.array .double)) (by decide)
  have F_instants_b7 : Fld Z h7 b7 cF "instants" "[D" .null := D7 (Or.inr (tw59 hw)) (ty := (.array .double)) (by decide)
  have F_lefts_b7 : Fld Z h7 b7 cF "lefts" "[D" .null := D7 (Or.inr (tw61 hw)) (ty := (.array .double)) (by decide)
  have F_rights_b7 : Fld Z h7 b7 cF "rights" "[D" .null := D7 (Or.inr (tw63 hw)) (ty := (.array .double)) (by decide)
  obtain ⟨_, _, ⟨T10, L10, k10, n10⟩, -, X10, ⟨Lc10, hQ10, l10, y10, z10⟩, st10⟩ := X7.specialBack hx (y := M18) rfl hown (mvT hZ (tw4 hw)) (mvT hZ (tw5 hw)) (mvT hZ (tw6 hw)) (by decide) (backOf (W := 1) (rmC0 l Z a0 hw [] b7 b3 k3 b5 k5 (h0.size) aE kE aC kC lC i0 i1 i2 h7 n0 Zs8 E_b7 F_times_b7 F_values_b7 F_instants_b7 F_lefts_b7 F_rights_b7 V_b3 E_b3 V_b5 E_b5 P1_0 (Nat.le_trans hkB KC8.1) (Nat.le_trans hkB sz_b7) gn_b7 ne_b3_b7 ne_b5_b7) hZ (tw6 hw) (tw3 hw) (by decide) (by decide)) (g := (mkF m 381 (LA p1 p2 p3 p4 p5 (.val (.int (0 : Int32))) tu0 tu1 tu2 vu0 vu1 vu2 (.val (.ref b3)) (.val (.ref b5)) (.val (.ref ea1)) (.val (.int (0 : Int32))) .unset .unset) [(.ref b5), (.ref b3), (.ref b7), (.ref b7)])) rfl (by rw [hml]; rfl) (Steps.refl _) (a := b7) (argsL := [(.ref b3), (.ref b5)]) (rest := [(.ref b7)]) (lenOf pd___D_D_V rfl) rfl (own_mr rfl) (hb hby at_381) (fun _ _ => ⟨rfl, e7, (by decide : 4 + 7 ≤ _), (by decide : 11 + 28 ≤ _)⟩)
  dsimp only [Pt.U, Pt.locs, Pt.cells, Pt.slots] at X10 l10 y10 z10 st10 hQ10
  rw [l10, y10, z10] at X10
  obtain ⟨di10, di_k10, dl10, dl_k10, dr10, dr_k10, rfl, N10q, K10, gdi10, sdi10, gdl10, sdl10, gdr10, sdr10, P10_0, P10_1, P10_2, P10_3, P10_4, P10_5, P10_6⟩ := hQ10
  have N10 := Fr.app N1 N10q
  have pl17_b7 := own_plain_Exa E_b7
  replace P1_0 := P1_0.keep K10 (allS (Nat.le_trans hkB sz_b7) all0) (allS pl17_b7 all0)
  replace P1_1 := P1_1.keep K10 (ninS ne_ea1_b7 nin0)
  replace V_b3 := V_b3.keep K10 (ninS ne_b3_b7 nin0)
  replace E_b3 := E_b3.keep K10
  replace V_b5 := V_b5.keep K10 (ninS ne_b5_b7 nin0)
  replace E_b5 := E_b5.keep K10
  replace E_b7 := E_b7.keep K10
  have Zs11 := Nat.le_trans Zs8 K10.1
  have KC11 := KC8.trans K10 (allS (Or.inr sz_b7) all0)
  have szdi10 := Nat.le_trans KC8.1 sdi10
  have szdl10 := Nat.le_trans KC8.1 sdl10
  have szdr10 := Nat.le_trans KC8.1 sdr10
  have pre12 : Pr p e below I0 T10 (mkF m 384 (LA p1 p2 p3 p4 p5 (.val (.int (0 : Int32))) tu0 tu1 tu2 vu0 vu1 vu2 (.val (.ref b3)) (.val (.ref b5)) (.val (.ref ea1)) (.val (.int (0 : Int32))) .unset .unset) [(.ref b7)]) := by
   intro tg kk
   refine pre2 tg ?_
   refine XS.iload X1.here hx rfl (hb hby at_83) rfl ?_
   refine XS.ifNo X1.here hx rfl (hb hby at_85) rfl (XT.i0_ne_f (by decide)) ?_
   refine XS.iconst X1.here hx rfl (hb hby at_88) ?_
   refine st3 _ ?_
   refine XS.astore X3.here hx rfl (hb hby at_91) rfl rfl (l' := (LA p1 p2 p3 p4 p5 (.val (.int (0 : Int32))) tu0 tu1 tu2 vu0 vu1 vu2 (.val (.ref b3)) .unset (.val (.ref ea1)) .unset .unset .unset)) rfl ?_
   refine XS.iconst X3.here hx rfl (hb hby at_93) ?_
   refine st5 _ ?_
   refine XS.astore X5.here hx rfl (hb hby at_96) rfl rfl (l' := (LA p1 p2 p3 p4 p5 (.val (.int (0 : Int32))) tu0 tu1 tu2 vu0 vu1 vu2 (.val (.ref b3)) (.val (.ref b5)) (.val (.ref ea1)) .unset .unset .unset)) rfl ?_
   refine XS.iconst X5.here hx rfl (hb hby at_98) ?_
   refine XS.istore X5.here hx rfl (hb hby at_99) rfl (l' := (LA p1 p2 p3 p4 p5 (.val (.int (0 : Int32))) tu0 tu1 tu2 vu0 vu1 vu2 (.val (.ref b3)) (.val (.ref b5)) (.val (.ref ea1)) (.val (.int (0 : Int32))) .unset .unset)) rfl ?_
   refine XS.goto X5.here hx rfl (pc0 := 101) (pc' := 373) rfl (hb hby at_101) (by decide) (by decide) ?_
   refine st7 _ ?_
   refine XS.dup X7.here hx rfl (hb hby at_376) rfl rfl ?_
   refine XS.aload X7.here hx rfl (hb hby at_377) rfl rfl ?_
   refine XS.aload X7.here hx rfl (hb hby at_379) rfl rfl ?_
   refine st10.trans ?_
   exact kk
  exact ⟨T10, _, T10.heap, b3, b5, b7, di10, dl10, dr10, di_k10, dl_k10, dr_k10, X10, N10, rfl, Zs11, KC11, P1_1, P10_0, P10_1, P10_2, P10_3, P10_4, P10_5, P10_6, gn_b3, gn_b5, gn_b7, gdi10, gdl10, gdr10, sz_b3, sz_b5, sz_b7, szdi10, szdl10, szdr10, ne_ea1_b7, ne_b3_b7, ne_b5_b7, pre12⟩
 clear pre2 X1 N1 e1 KC1 Zs1 P1_0 P1_1
 obtain ⟨T14, lo14, H14, rb14, X14, N14, e14, Zs14, KC14, st14⟩ := sT0 hw hx hby hml hZ hown hnm p1 p2 p3 p4 p5 tu0 tu1 tu2 vu0 vu1 vu2 ((0 : Int32)) b3 b5 ea1 ea_k1 b7 di10 di_k10 dl10 dl_k10 dr10 dr_k10 (X13.more (by decide) (by decide)) N13 e13 Zs13 KC13 P10_0_c13 P10_1_c13 P10_2_c13 P10_3_c13 P10_4_c13 P10_5_c13 P10_6_c13 P1_1_c13
 obtain ⟨fs, hr, hrun, hended, hW, hsame⟩ := X14.leave (v := some (.int (1 : Int32))) (fun h => by rw [Bd.returns] at h; cases h)
 refine ⟨_, _, pre13 _ ?_, hrun, hended, _, _, rfl, ?_, ⟨_, rfl⟩, hW, hsame.mono (by decide) (by decide)⟩
 ·skip
  refine XS.astore X13.here hx rfl (hb hby at_384) rfl rfl (l' := (LA p1 p2 p3 p4 p5 (.val (.int (0 : Int32))) tu0 tu1 tu2 vu0 vu1 vu2 (.val (.ref b3)) (.val (.ref b5)) (.val (.ref ea1)) (.val (.int (0 : Int32))) (.val (.ref b7)) .unset)) rfl ?_
  refine st14 _ ?_
  refine XS.iconst X14.here hx rfl (hb hby at_481) ?_
  refine XS.goto X14.here hx rfl (pc0 := 482) (pc' := 486) rfl (hb hby at_482) (by decide) (by decide) ?_
  exact retN X14 hx (t := .boolean) Bd.returns (by simp) (hb hby at_486) hr
 ·show Q0 Z p1 p2 p3 p4 p5 tu0 tu1 tu2 vu0 vu1 vu2 aE kE aC kC lC i0 i1 i2 h0 n0 _ T14.heap _
  rw [e14]
  exact ⟨rfl, N14⟩
set_option maxRecDepth 65536 in
set_option maxHeartbeats 40000000 in
theorem rm0_1 (l : Launch) (Z : State) (a0 : Array Value) (hw : HW a0 Z) (ws : List Jvm.Cond) (p1 : Int32) (p2 : Int32) (p3 : Int32) (p4 : Int32) (p5 : Int32) (tu0 : Int64) (tu1 : Int64) (tu2 : Int64) (vu0 : Int64) (vu1 : Int64) (vu2 : Int64) (aE : Addr) (kE : ClassId) (aC : Addr) (kC : ClassId) (lC : List Value) (i0 : Addr) (i1 : Addr) (i2 : Addr) (h0 : Heap) (n0 : Nat) (Z0 : n0 ≤ h0.size) (hn : (p1 &&& (3 : Int32)) = (1 : Int32)) (htu0 : tu0 = (((p2 &&& (1023 : Int32)) - (512 : Int32))).toInt64) (htu1 : tu1 = (tu0 + ((p3 &&& (3 : Int32))).toInt64)) (htu2 : tu2 = (tu1 + ((((p3.toUInt32 >>> ((2 : Int32) &&& 31).toUInt32).toInt32) &&& (3 : Int32))).toInt64)) (hvu0 : vu0 = ((p4 &&& (255 : Int32))).toInt64) (hvu1 : vu1 = (vu0 + ((p5 &&& (7 : Int32))).toInt64)) (hvu2 : vu2 = (vu1 + ((((p5.toUInt32 >>> ((3 : Int32) &&& 31).toUInt32).toInt32) &&& (7 : Int32))).toInt64)) (b_tu0 : B53 tu0) (b_tu1 : B53 tu1) (b_tu2 : B53 tu2) (b_vu0 : B53 vu0) (b_vu1 : B53 vu1) (b_vu2 : B53 vu2) (ov0 : ¬ vu0 < (0 : Int64)) (ot1 : ¬ tu1 < tu0) (ov1 : ¬ vu1 < vu0) (ot2 : ¬ tu2 < tu1) (ov2 : ¬ vu2 < vu1) (EN : EnvJ Z h0.size h0 aE kE aC kC lC i0 i1 i2) :
    MetFree l x (head1 (Jvm.Cond.code x code maxLocals ret :: ws) room_1) (fun ar UU => ar = #[(.int p1), (.int p2), (.int p3), (.int p4), (.int p5)] ∧ Z.Warmed39 UU.vm ∧ UU.heap = h0) (fun _ _ _ _ _ => True) (fun _ UU oo UU' => ∃ vv LL, oo = .returned vv ∧ Q0 Z p1 p2 p3 p4 p5 tu0 tu1 tu2 vu0 vu1 vu2 aE kE aC kC lC i0 i1 i2 h0 n0 vv UU'.heap LL ∧ FrameEnd UU oo UU' LL room_1.cells room_1.slots) := by
 refine MetFree.of_bodySF (plainFor_of_name pn_0) hisR ?_
 intro p e s m args below meth c s₁ Bd hml0 hP hK
 obtain ⟨rfl, hZ, hh⟩ := hP
 have hx := Bd.exec
 have hby := Bd.bytes
 have hml : c.maxLocals = 26 := hml0
 have hown : s.vm.findClass "com/example/narrow_bound/narrowbound/witness/CumulativeFunctionLevelsPinLaw" = some m.cls := findClass_of_methodNamed Bd.named
 have hnm := (name_of_methodNamed Bd.named Bd.method).1
 have X0 : Stand p l e room_1 s m #[(.int p1), (.int p2), (.int p3), (.int p4), (.int p5)] below meth c s₁ [] 0 0 := Stand.of_body Bd
 have e0 : s₁.heap = h0 := by rw [← hh, Bd.state]; rfl
 have N0 := Fr.nil n0
 have KC0 : Keep h0 h0 [] := Keep.refl h0 []
 have pre0 : ∀ tgt, Steps p.tables e below (s₁.setTop (mkF m 0 #[.val (.int p1), .val (.int p2), .val (.int p3), .val (.int p4), .val (.int p5), .unset, .unset, .unset, .unset, .unset, .unset, .unset, .unset, .unset, .unset, .unset, .unset, .unset, .unset, .unset, .unset, .unset, .unset, .unset, .unset, .unset] [])) tgt → Steps p.tables e below (s₁.setTop (entryFrame m #[(.int p1), (.int p2), (.int p3), (.int p4), (.int p5)] maxLocals)) tgt := fun tgt kk => castTop (ef0_IIIII m (p1) (p2) (p3) (p4) (p5)) kk
 have hkB := Nat.le_refl h0.size
 generalize hI : s₁.setTop (entryFrame m #[(.int p1), (.int p2), (.int p3), (.int p4), (.int p5)] maxLocals) = I0 at pre0 ⊢
 obtain ⟨T1, lo1, H1, ea1, ea_k1, X1, N1, e1, Zs1, KC1, P1_0, P1_1, o1_0, o1_1, st1⟩ := sP hw hx hby hml hZ hown hnm p1 p2 p3 p4 p5 tu0 tu1 tu2 vu0 vu1 vu2 (h0.size) aE kE aC kC lC i0 i1 i2 X0 N0 e0 Z0 KC0 htu0 htu1 htu2 hvu0 hvu1 hvu2 b_tu0 b_tu1 b_tu2 b_vu0 b_vu1 b_vu2 EN hkB
 have pre2 : Pr p e below I0 T1 (mkF m 83 (LA p1 p2 p3 p4 p5 (.val (.int (p1 &&& (3 : Int32)))) tu0 tu1 tu2 vu0 vu1 vu2 .unset .unset (.val (.ref ea1)) .unset .unset .unset) []) := by
  intro tg kk
  refine pre0 tg ?_
  refine st1 _ ?_
  exact kk
 rw [hn] at pre2
 obtain ⟨T14, lo14, Hc14, b3, b8, k3, k8, X14, N14, e14, Zs14, KC14, P1_0_c14, P1_1_c14, E_b3_c14, Vq6_c14, E_b8_c14, Vq11_c14, gnc14_1, gnc14_2, szc14_1, szc14_2, nesc14_0, nesc14_1, nesc14_2, pre14⟩ : ∃ (T14 : State) (lo14 : List Loc) (Hc14 : Heap) (b3 : Addr) (b8 : Addr) (k3 : ClassId) (k8 : ClassId), Stand p l e room_1 s m #[(.int p1), (.int p2), (.int p3), (.int p4), (.int p5)] below meth c T14 lo14 3 8 ∧ Fr n0 lo14 ∧ T14.heap = Hc14 ∧ n0 ≤ Hc14.size ∧ Keep h0 Hc14 [] ∧ EnvJ Z h0.size Hc14 aE kE aC kC lC i0 i1 i2 ∧ Arv Z Hc14 ea1 ea_k1 .double (6 : Int32) [dZ, dZ, dZ, dZ, dZ, dZ] dZ ∧ Exa Z Hc14 b3 "[D" ∧ Arv Z Hc14 b3 k3 .double (1 : Int32) [(dV tu0)] dZ ∧ Exa Z Hc14 b8 "[D" ∧ Arv Z Hc14 b8 k8 .double (1 : Int32) [(dV vu0)] dZ ∧ n0 ≤ b3 ∧ n0 ≤ b8 ∧ h0.size ≤ b3 ∧ h0.size ≤ b8 ∧ ea1 ≠ b3 ∧ ea1 ≠ b8 ∧ b3 ≠ b8 ∧ Pr p e below I0 T14 (mkF m 128 (LA p1 p2 p3 p4 p5 (.val (.int (1 : Int32))) tu0 tu1 tu2 vu0 vu1 vu2 (.val (.ref b3)) .unset (.val (.ref ea1)) .unset .unset .unset) [(.ref b8)]) := by
  obtain ⟨T3, h3, k3, X3, e3, E3, A3, Ex3, st3⟩ := newPE X1 hx hZ (aty := .double) (tw0 hw) e1 (g := (mkF m 111 (LA p1 p2 p3 p4 p5 (.val (.int (1 : Int32))) tu0 tu1 tu2 vu0 vu1 vu2 .unset .unset (.val (.ref ea1)) .unset .unset .unset) [(.int (1 : Int32))])) rfl (hb hby at_111) rfl (by decide) (cap := 1) (by decide) (by decide) (by decide) (by decide) (ad := "[D") (by decide +kernel)
  obtain ⟨b3, g3⟩ : ∃ z, z = H1.size := ⟨_, rfl⟩
  rw [← g3] at A3 Ex3 st3
  have ne_ea1_b3 := own_ne P1_1.lt g3
  have gn_b3 := own_le Zs1 g3
  have sz_b3 := own_le KC1.1 g3
  replace P1_0 := P1_0.ext E3
  replace P1_1 := P1_1.ext E3
  have Zs4 := Nat.le_trans Zs1 E3.1
  have KC4 := KC1.ext E3
  have V_b3 : Arv Z h3 b3 k3 .double (1 : Int32) [dZ] dZ := (Arv.newD A3 (by decide)).pad (pad_rep [] dZ 1)
  have E_b3 : Exa Z h3 b3 "[D" := Ex3
  obtain ⟨cl5, Ar5, aq5, aS5, aN5, aH5, aG5⟩ := id V_b3
  have hin6 : ¬ ((0 : Int32) < 0 ∨ cl5.slots.size ≤ ((0 : Int32)).toNatClampNeg) := inb_of aS5 ⟨by decide, by decide⟩
  obtain ⟨T6, h6, X6, e6, W6, st6⟩ := stD X3 hx hZ e3 Ar5 (j := (0 : Int32)) hin6 (g := (mkF m 117 (LA p1 p2 p3 p4 p5 (.val (.int (1 : Int32))) tu0 tu1 tu2 vu0 vu1 vu2 .unset .unset (.val (.ref ea1)) .unset .unset .unset) [(dV tu0), (.int (0 : Int32)), (.ref b3), (.ref b3)])) rfl rfl (hb hby at_117)
  have N6 := Fr.snoc X6 N1 gn_b3
  have Vq6 : Arv Z h6 b3 k3 .double (1 : Int32) [(dV tu0)] dZ := Arv.set Ar5 aq5 aS5 aN5 aH5 aG5 rfl W6 0 rfl (Nat.le_of_ble_eq_true rfl)
  replace P1_0 := P1_0.wr W6 (Nat.le_trans hkB sz_b3)
  replace P1_1 := P1_1.other W6 ne_ea1_b3
  replace E_b3 := E_b3.wr W6
  have Zs7 := Nat.le_trans Zs4 (Keep.of_wr W6).1
  have KC7 := KC4.wr W6 (Or.inr sz_b3)
  obtain ⟨T8, h8, k8, X8, e8, E8, A8, Ex8, st8⟩ := newPE X6 hx hZ (aty := .double) (tw0 hw) e6 (g := (mkF m 121 (LA p1 p2 p3 p4 p5 (.val (.int (1 : Int32))) tu0 tu1 tu2 vu0 vu1 vu2 (.val (.ref b3)) .unset (.val (.ref ea1)) .unset .unset .unset) [(.int (1 : Int32))])) rfl (hb hby at_121) rfl (by decide) (cap := 1) (by decide) (by decide) (by decide) (by decide) (ad := "[D") (by decide +kernel)
  obtain ⟨b8, g8⟩ : ∃ z, z = h6.size := ⟨_, rfl⟩
  rw [← g8] at A8 Ex8 st8
  have ne_ea1_b8 := own_ne P1_1.lt g8
  have ne_b3_b8 := own_ne E_b3.lt g8
  have gn_b8 := own_le Zs7 g8
  have sz_b8 := own_le KC7.1 g8
  replace P1_0 := P1_0.ext E8
  replace P1_1 := P1_1.ext E8
  replace E_b3 := E_b3.ext E8
  replace Vq6 := Vq6.ext E8
  have Zs9 := Nat.le_trans Zs7 E8.1
  have KC9 := KC7.ext E8
  have V_b8 : Arv Z h8 b8 k8 .double (1 : Int32) [dZ] dZ := (Arv.newD A8 (by decide)).pad (pad_rep [] dZ 1)
  have E_b8 : Exa Z h8 b8 "[D" := Ex8
  obtain ⟨cl10, Ar10, aq10, aS10, aN10, aH10, aG10⟩ := id V_b8
  have hin11 : ¬ ((0 : Int32) < 0 ∨ cl10.slots.size ≤ ((0 : Int32)).toNatClampNeg) := inb_of aS10 ⟨by decide, by decide⟩
  obtain ⟨T11, h11, X11, e11, W11, st11⟩ := stD X8 hx hZ e8 Ar10 (j := (0 : Int32)) hin11 (g := (mkF m 127 (LA p1 p2 p3 p4 p5 (.val (.int (1 : Int32))) tu0 tu1 tu2 vu0 vu1 vu2 (.val (.ref b3)) .unset (.val (.ref ea1)) .unset .unset .unset) [(dV vu0), (.int (0 : Int32)), (.ref b8), (.ref b8)])) rfl rfl (hb hby at_127)
  have N11 := Fr.snoc X11 N6 gn_b8
  have Vq11 : Arv Z h11 b8 k8 .double (1 : Int32) [(dV vu0)] dZ := Arv.set Ar10 aq10 aS10 aN10 aH10 aG10 rfl W11 0 rfl (Nat.le_of_ble_eq_true rfl)
  replace P1_0 := P1_0.wr W11 (Nat.le_trans hkB sz_b8)
  replace P1_1 := P1_1.other W11 ne_ea1_b8
  replace E_b3 := E_b3.wr W11
  replace Vq6 := Vq6.other W11 ne_b3_b8
  replace E_b8 := E_b8.wr W11
  have Zs12 := Nat.le_trans Zs9 (Keep.of_wr W11).1
  have KC12 := KC9.wr W11 (Or.inr sz_b8)
  have pre13 : Pr p e below I0 T11 (mkF m 128 (LA p1 p2 p3 p4 p5 (.val (.int (1 : Int32))) tu0 tu1 tu2 vu0 vu1 vu2 (.val (.ref b3)) .unset (.val (.ref ea1)) .unset .unset .unset) [(.ref b8)]) := by
   intro tg kk
   refine pre2 tg ?_
   refine XS.iload X1.here hx rfl (hb hby at_83) rfl ?_
   refine XS.ifYes X1.here hx rfl (pc0 := 85) (pc' := 104) rfl (hb hby at_85) rfl (XT.i0_ne_t (by decide)) (by decide) (by decide) ?_
   refine XS.iload X1.here hx rfl (hb hby at_104) rfl ?_
   refine XS.iconst X1.here hx rfl (hb hby at_106) ?_
   refine XS.icmpNo X1.here hx rfl (hb hby at_107) rfl (XT.ii_ne_f (by decide)) ?_
   refine XS.iconst X1.here hx rfl (hb hby at_110) ?_
   refine st3 _ ?_
   refine XS.dup X3.here hx rfl (hb hby at_113) rfl rfl ?_
   refine XS.iconst X3.here hx rfl (hb hby at_114) ?_
   refine XS.dload X3.here hx rfl (hb hby at_115) rfl ?_
   refine st6 _ ?_
   refine XS.astore X6.here hx rfl (hb hby at_118) rfl rfl (l' := (LA p1 p2 p3 p4 p5 (.val (.int (1 : Int32))) tu0 tu1 tu2 vu0 vu1 vu2 (.val (.ref b3)) .unset (.val (.ref ea1)) .unset .unset .unset)) rfl ?_
   refine XS.iconst X6.here hx rfl (hb hby at_120) ?_
   refine st8 _ ?_
   refine XS.dup X8.here hx rfl (hb hby at_123) rfl rfl ?_
   refine XS.iconst X8.here hx rfl (hb hby at_124) ?_
   refine XS.dload X8.here hx rfl (hb hby at_125) rfl ?_
   refine st11 _ ?_
   exact kk
  exact ⟨T11, _, h11, b3, b8, k3, k8, X11, N11, e11, Zs12, KC12, P1_0, P1_1, E_b3, Vq6, E_b8, Vq11, gn_b3, gn_b8, sz_b3, sz_b8, ne_ea1_b3, ne_ea1_b8, ne_b3_b8, pre13⟩
 clear pre2 X1 N1 e1 KC1 Zs1 P1_0 P1_1
 obtain ⟨T25, lo25, Hc25, b18, rb23, X25, N25, e25, Zs25, KC25, gnc25_3, szc25_3, nesc25_3, nesc25_4, nesc25_5, pre25⟩ : ∃ (T25 : State) (lo25 : List Loc) (Hc25 : Heap) (b18 : Addr) (rb23 : Addr), Stand p l e room_1 s m #[(.int p1), (.int p2), (.int p3), (.int p4), (.int p5)] below meth c T25 lo25 21 122 ∧ Fr n0 lo25 ∧ T25.heap = Hc25 ∧ n0 ≤ Hc25.size ∧ Keep h0 Hc25 [] ∧ n0 ≤ b18 ∧ h0.size ≤ b18 ∧ b3 ≠ b18 ∧ b8 ≠ b18 ∧ ea1 ≠ b18 ∧ Pr p e below I0 T25 (mkF m 481 (LA p1 p2 p3 p4 p5 (.val (.int (1 : Int32))) tu0 tu1 tu2 vu0 vu1 vu2 (.val (.ref b3)) (.val (.ref b8)) (.val (.ref ea1)) (.val (.int (2 : Int32))) (.val (.ref b18)) (.val (.ref rb23))) []) := by
  obtain ⟨cl15, Ar15, aq15, aS15, aN15, aH15, aG15⟩ := id P1_1_c14
  have hin16 : ¬ ((1 : Int32) < 0 ∨ cl15.slots.size ≤ ((1 : Int32)).toNatClampNeg) := inb_of aS15 ⟨by decide, by decide⟩
  obtain ⟨T16, h16, X16, e16, W16, st16⟩ := stD X14 hx hZ e14 Ar15 (j := (1 : Int32)) hin16 (g := (mkF m 138 (LA p1 p2 p3 p4 p5 (.val (.int (1 : Int32))) tu0 tu1 tu2 vu0 vu1 vu2 (.val (.ref b3)) (.val (.ref b8)) (.val (.ref ea1)) (.val (.int (2 : Int32))) .unset .unset) [(dV vu0), (.int (1 : Int32)), (.ref ea1)])) rfl rfl (hb hby at_138)
  have N16 := Fr.snoc X16 N14 o1_0
  have Vq16 : Arv Z h16 ea1 ea_k1 .double (6 : Int32) [dZ, (dV vu0), dZ, dZ, dZ, dZ] dZ := Arv.set Ar15 aq15 aS15 aN15 aH15 aG15 rfl W16 1 rfl (Nat.le_of_ble_eq_true rfl)
  replace P1_0_c14 := P1_0_c14.wr W16 (Nat.le_trans hkB o1_1)
  replace E_b3_c14 := E_b3_c14.wr W16
  replace Vq6_c14 := Vq6_c14.other W16 (Ne.symm nesc14_0)
  replace E_b8_c14 := E_b8_c14.wr W16
  replace Vq11_c14 := Vq11_c14.other W16 (Ne.symm nesc14_1)
  have Zs17 := Nat.le_trans Zs14 (Keep.of_wr W16).1
  have KC17 := KC14.wr W16 (Or.inr o1_1)
  obtain ⟨T18, h18, X18, e18, E18, A18, D18, -, st18⟩ := newO X16 hx hZ hown (tw1 hw) (tw2 hw) (tw3 hw) e16 (g := (mkF m 373 (LA p1 p2 p3 p4 p5 (.val (.int (1 : Int32))) tu0 tu1 tu2 vu0 vu1 vu2 (.val (.ref b3)) (.val (.ref b8)) (.val (.ref ea1)) (.val (.int (2 : Int32))) .unset .unset) [])) rfl (hb hby at_373) (by decide) (by decide)
  obtain ⟨b18, g18⟩ : ∃ z, z = h16.size := ⟨_, rfl⟩
  rw [← g18] at A18 D18 st18
  have ne_b3_b18 := own_ne E_b3_c14.lt g18
  have ne_b8_b18 := own_ne E_b8_c14.lt g18
  have ne_ea1_b18 := own_ne Vq16.lt g18
  have gn_b18 := own_le Zs17 g18
  have sz_b18 := own_le KC17.1 g18
  replace P1_0_c14 := P1_0_c14.ext E18
  replace E_b3_c14 := E_b3_c14.ext E18
  replace Vq6_c14 := Vq6_c14.ext E18
  replace E_b8_c14 := E_b8_c14.ext E18
  replace Vq11_c14 := Vq11_c14.ext E18
  replace Vq16 := Vq16.ext E18
  have Zs19 := Nat.le_trans Zs17 E18.1
  have KC19 := KC17.ext E18
  have E_b18 : Exa Z h18 b18 cF := A18
  have F_times_b18 : Fld Z h18 b18 cF "times" "[D" .null := D18 (Or.inr (tw20 hw)) (ty := (.array .double)) (by decide)
  have F_values_b18 : Fld Z h18 b18 cF "values" "[D" .null := D18 (Or.inr (tw22 hw)) (ty := (.array .double)) (by decide)
  have F_instants_b18 : Fld Z h18 b18 cF "instants" "[D" .null := D18 (Or.inr (tw59 hw)) (ty := (.array .double)) (by decide)
  have F_lefts_b18 : Fld Z h18 b18 cF "lefts" "[D" .null := D18 (Or.inr (tw61 hw)) (ty := (.array .double)) (by decide)
  have F_rights_b18 : Fld Z h18 b18 cF "rights" "[D" .null := D18 (Or.inr (tw63 hw)) (ty := (.array .double)) (by decide)
  obtain ⟨_, _, ⟨T21, L21, k21, n21⟩, -, X21, ⟨Lc21, hQ21, l21, y21, z21⟩, st21⟩ := X18.specialBack hx (y := M18) rfl hown (mvT hZ (tw4 hw)) (mvT hZ (tw5 hw)) (mvT hZ (tw6 hw)) (by decide) (backOf (W := 1) (rmC1 l Z a0 hw [] b18 b3 k3 b8 k8 (h0.size) aE kE aC kC lC i0 i1 i2 tu0 vu0 h18 n0 Zs19 E_b18 F_times_b18 F_values_b18 F_instants_b18 F_lefts_b18 F_rights_b18 Vq6_c14 E_b3_c14 Vq11_c14 E_b8_c14 P1_0_c14 (Nat.le_trans hkB KC19.1) (Nat.le_trans hkB sz_b18) gn_b18 ne_b3_b18 ne_b8_b18 b_tu0 b_vu0 ov0) hZ (tw6 hw) (tw3 hw) (by decide) (by decide)) (g := (mkF m 381 (LA p1 p2 p3 p4 p5 (.val (.int (1 : Int32))) tu0 tu1 tu2 vu0 vu1 vu2 (.val (.ref b3)) (.val (.ref b8)) (.val (.ref ea1)) (.val (.int (2 : Int32))) .unset .unset) [(.ref b8), (.ref b3), (.ref b18), (.ref b18)])) rfl (by rw [hml]; rfl) (Steps.refl _) (a := b18) (argsL := [(.ref b3), (.ref b8)]) (rest := [(.ref b18)]) (lenOf pd___D_D_V rfl) rfl (own_mr rfl) (hb hby at_381) (fun _ _ => ⟨rfl, e18, (by decide : 4 + 7 ≤ _), (by decide : 13 + 28 ≤ _)⟩)
  dsimp only [Pt.U, Pt.locs, Pt.cells, Pt.slots] at X21 l21 y21 z21 st21 hQ21
  rw [l21, y21, z21] at X21
  obtain ⟨di21, di_k21, dl21, dl_k21, dr21, dr_k21, rfl, N21q, K21, gdi21, sdi21, gdl21, sdl21, gdr21, sdr21, P21_0, P21_1, P21_2, P21_3, P21_4, P21_5, P21_6⟩ := hQ21
  have N21 := Fr.app N16 N21q
  have pl32_b18 := own_plain_Exa E_b18
  replace P1_0_c14 := P1_0_c14.keep K21 (allS (Nat.le_trans hkB sz_b18) all0) (allS pl32_b18 all0)
  replace E_b3_c14 := E_b3_c14.keep K21
  replace Vq6_c14 := Vq6_c14.keep K21 (ninS ne_b3_b18 nin0)
  replace E_b8_c14 := E_b8_c14.keep K21
  replace Vq11_c14 := Vq11_c14.keep K21 (ninS ne_b8_b18 nin0)
  replace Vq16 := Vq16.keep K21 (ninS ne_ea1_b18 nin0)
  replace E_b18 := E_b18.keep K21
  have Zs22 := Nat.le_trans Zs19 K21.1
  have KC22 := KC19.trans K21 (allS (Or.inr sz_b18) all0)
  have szdi21 := Nat.le_trans KC19.1 sdi21
  have szdl21 := Nat.le_trans KC19.1 sdl21
  have szdr21 := Nat.le_trans KC19.1 sdr21
  obtain ⟨T23, lo23, H23, rb23, X23, N23, e23, Zs23, KC23, st23⟩ := sT1 hw hx hby hml hZ hown hnm p1 p2 p3 p4 p5 tu0 tu1 tu2 vu0 vu1 vu2 ((1 : Int32)) b3 b8 ea1 ea_k1 b18 di21 di_k21 dl21 dl_k21 dr21 dr_k21 tu0 vu0 (X21.more (by decide) (by decide)) N21 rfl Zs22 KC22 P21_0 P21_1 P21_2 P21_3 P21_4 P21_5 P21_6 Vq16 b_vu0
  have pre24 : Pr p e below I0 T23 (mkF m 481 (LA p1 p2 p3 p4 p5 (.val (.int (1 : Int32))) tu0 tu1 tu2 vu0 vu1 vu2 (.val (.ref b3)) (.val (.ref b8)) (.val (.ref ea1)) (.val (.int (2 : Int32))) (.val (.ref b18)) (.val (.ref rb23))) []) := by
   intro tg kk
   refine pre14 tg ?_
   refine XS.astore X14.here hx rfl (hb hby at_128) rfl rfl (l' := (LA p1 p2 p3 p4 p5 (.val (.int (1 : Int32))) tu0 tu1 tu2 vu0 vu1 vu2 (.val (.ref b3)) (.val (.ref b8)) (.val (.ref ea1)) .unset .unset .unset)) rfl ?_
   refine XS.iconst X14.here hx rfl (hb hby at_130) ?_
   refine XS.istore X14.here hx rfl (hb hby at_131) rfl (l' := (LA p1 p2 p3 p4 p5 (.val (.int (1 : Int32))) tu0 tu1 tu2 vu0 vu1 vu2 (.val (.ref b3)) (.val (.ref b8)) (.val (.ref ea1)) (.val (.int (2 : Int32))) .unset .unset)) rfl ?_
   refine XS.aload X14.here hx rfl (hb hby at_133) rfl rfl ?_
   refine XS.iconst X14.here hx rfl (hb hby at_135) ?_
   refine XS.dload X14.here hx rfl (hb hby at_136) rfl ?_
   refine st16 _ ?_
   refine XS.goto X16.here hx rfl (pc0 := 139) (pc' := 373) rfl (hb hby at_139) (by decide) (by decide) ?_
   refine st18 _ ?_
   refine XS.dup X18.here hx rfl (hb hby at_376) rfl rfl ?_
   refine XS.aload X18.here hx rfl (hb hby at_377) rfl rfl ?_
   refine XS.aload X18.here hx rfl (hb hby at_379) rfl rfl ?_
   refine st21.trans ?_
   refine XS.astore X21.here hx rfl (hb hby at_384) rfl rfl (l' := (LA p1 p2 p3 p4 p5 (.val (.int (1 : Int32))) tu0 tu1 tu2 vu0 vu1 vu2 (.val (.ref b3)) (.val (.ref b8)) (.val (.ref ea1)) (.val (.int (2 : Int32))) (.val (.ref b18)) .unset)) rfl ?_
   refine st23 _ ?_
   exact kk
  exact ⟨T23, _, H23, b18, rb23, X23, N23, e23, Zs23, KC23, gn_b18, sz_b18, ne_b3_b18, ne_b8_b18, ne_ea1_b18, pre24⟩
 clear pre14 X14 N14 e14 KC14 Zs14 P1_0_c14 P1_1_c14 E_b3_c14 Vq6_c14 E_b8_c14 Vq11_c14
 obtain ⟨fs, hr, hrun, hended, hW, hsame⟩ := X25.leave (v := some (.int (1 : Int32))) (fun h => by rw [Bd.returns] at h; cases h)
 refine ⟨_, _, pre25 _ ?_, hrun, hended, _, _, rfl, ?_, ⟨_, rfl⟩, hW, hsame.mono (by decide) (by decide)⟩
 ·skip
  refine XS.iconst X25.here hx rfl (hb hby at_481) ?_
  refine XS.goto X25.here hx rfl (pc0 := 482) (pc' := 486) rfl (hb hby at_482) (by decide) (by decide) ?_
  exact retN X25 hx (t := .boolean) Bd.returns (by simp) (hb hby at_486) hr
 ·show Q0 Z p1 p2 p3 p4 p5 tu0 tu1 tu2 vu0 vu1 vu2 aE kE aC kC lC i0 i1 i2 h0 n0 _ T25.heap _
  rw [e25]
  exact ⟨rfl, N25⟩
set_option maxRecDepth 65536 in
set_option maxHeartbeats 40000000 in
theorem rm0_2t (l : Launch) (Z : State) (a0 : Array Value) (hw : HW a0 Z) (ws : List Jvm.Cond) (p1 : Int32) (p2 : Int32) (p3 : Int32) (p4 : Int32) (p5 : Int32) (tu0 : Int64) (tu1 : Int64) (tu2 : Int64) (vu0 : Int64) (vu1 : Int64) (vu2 : Int64) (aE : Addr) (kE : ClassId) (aC : Addr) (kC : ClassId) (lC : List Value) (i0 : Addr) (i1 : Addr) (i2 : Addr) (h0 : Heap) (n0 : Nat) (Z0 : n0 ≤ h0.size) (hn : (p1 &&& (3 : Int32)) = (2 : Int32)) (hp1 : ¬ (p3 &&& (3 : Int32)) = (0 : Int32)) (ps1 : tu0 < tu1) (htu0 : tu0 = (((p2 &&& (1023 : Int32)) - (512 : Int32))).toInt64) (htu1 : tu1 = (tu0 + ((p3 &&& (3 : Int32))).toInt64)) (htu2 : tu2 = (tu1 + ((((p3.toUInt32 >>> ((2 : Int32) &&& 31).toUInt32).toInt32) &&& (3 : Int32))).toInt64)) (hvu0 : vu0 = ((p4 &&& (255 : Int32))).toInt64) (hvu1 : vu1 = (vu0 + ((p5 &&& (7 : Int32))).toInt64)) (hvu2 : vu2 = (vu1 + ((((p5.toUInt32 >>> ((3 : Int32) &&& 31).toUInt32).toInt32) &&& (7 : Int32))).toInt64)) (b_tu0 : B53 tu0) (b_tu1 : B53 tu1) (b_tu2 : B53 tu2) (b_vu0 : B53 vu0) (b_vu1 : B53 vu1) (b_vu2 : B53 vu2) (ov0 : ¬ vu0 < (0 : Int64)) (ot1 : ¬ tu1 < tu0) (ov1 : ¬ vu1 < vu0) (ot2 : ¬ tu2 < tu1) (ov2 : ¬ vu2 < vu1) (EN : EnvJ Z h0.size h0 aE kE aC kC lC i0 i1 i2) :
    MetFree l x (head1 (Jvm.Cond.code x code maxLocals ret :: ws) room_1) (fun ar UU => ar = #[(.int p1), (.int p2), (.int p3), (.int p4), (.int p5)] ∧ Z.Warmed39 UU.vm ∧ UU.heap = h0) (fun _ _ _ _ _ => True) (fun _ UU oo UU' => ∃ vv LL, oo = .returned vv ∧ Q0 Z p1 p2 p3 p4 p5 tu0 tu1 tu2 vu0 vu1 vu2 aE kE aC kC lC i0 i1 i2 h0 n0 vv UU'.heap LL ∧ FrameEnd UU oo UU' LL room_1.cells room_1.slots) := by
 refine MetFree.of_bodySF (plainFor_of_name pn_0) hisR ?_
 intro p e s m args below meth c s₁ Bd hml0 hP hK
 obtain ⟨rfl, hZ, hh⟩ := hP
 have hx := Bd.exec
 have hby := Bd.bytes
 have hml : c.maxLocals = 26 := hml0
 have hown : s.vm.findClass "com/example/narrow_bound/narrowbound/witness/CumulativeFunctionLevelsPinLaw" = some m.cls := findClass_of_methodNamed Bd.named
 have hnm := (name_of_methodNamed Bd.named Bd.method).1
 have X0 : Stand p l e room_1 s m #[(.int p1), (.int p2), (.int p3), (.int p4), (.int p5)] below meth c s₁ [] 0 0 := Stand.of_body Bd
 have e0 : s₁.heap = h0 := by rw [← hh, Bd.state]; rfl
 have N0 := Fr.nil n0
 have KC0 : Keep h0 h0 [] := Keep.refl h0 []
 have pre0 : ∀ tgt, Steps p.tables e below (s₁.setTop (mkF m 0 #[.val (.int p1), .val (.int p2), .val (.int p3), .val (.int p4), .val (.int p5), .unset, .unset, .unset, .unset, .unset, .unset, .unset, .unset, .unset, .unset, .unset, .unset, .unset, .unset, .unset, .unset, .unset, .unset, .unset, .unset, .unset] [])) tgt → Steps p.tables e below (s₁.setTop (entryFrame m #[(.int p1), (.int p2), (.int p3), (.int p4), (.int p5)] maxLocals)) tgt := fun tgt kk => castTop (ef0_IIIII m (p1) (p2) (p3) (p4) (p5)) kk
 have hkB := Nat.le_refl h0.size
 generalize hI : s₁.setTop (entryFrame m #[(.int p1), (.int p2), (.int p3), (.int p4), (.int p5)] maxLocals) = I0 at pre0 ⊢
 obtain ⟨T1, lo1, H1, ea1, ea_k1, X1, N1, e1, Zs1, KC1, P1_0, P1_1, o1_0, o1_1, st1⟩ := sP hw hx hby hml hZ hown hnm p1 p2 p3 p4 p5 tu0 tu1 tu2 vu0 vu1 vu2 (h0.size) aE kE aC kC lC i0 i1 i2 X0 N0 e0 Z0 KC0 htu0 htu1 htu2 hvu0 hvu1 hvu2 b_tu0 b_tu1 b_tu2 b_vu0 b_vu1 b_vu2 EN hkB
 have pre2 : Pr p e below I0 T1 (mkF m 83 (LA p1 p2 p3 p4 p5 (.val (.int (p1 &&& (3 : Int32)))) tu0 tu1 tu2 vu0 vu1 vu2 .unset .unset (.val (.ref ea1)) .unset .unset .unset) []) := by
  intro tg kk
  refine pre0 tg ?_
  refine st1 _ ?_
  exact kk
 rw [hn] at pre2
 obtain ⟨T12, lo12, Hc12, ts3, vs3, ts_k3, vs_k3, X12, N12, e12, Zs12, KC12, P3_0_c12, P3_2_c12, P3_3_c12, P3_4_c12, P3_5_c12, Vq9_c12, gnc12_1, gnc12_2, szc12_1, szc12_2, nesc12_0, nesc12_1, pre12⟩ : ∃ (T12 : State) (lo12 : List Loc) (Hc12 : Heap) (ts3 : Addr) (vs3 : Addr) (ts_k3 : ClassId) (vs_k3 : ClassId), Stand p l e room_1 s m #[(.int p1), (.int p2), (.int p3), (.int p4), (.int p5)] below meth c T12 lo12 3 10 ∧ Fr n0 lo12 ∧ T12.heap = Hc12 ∧ n0 ≤ Hc12.size ∧ Keep h0 Hc12 [] ∧ EnvJ Z h0.size Hc12 aE kE aC kC lC i0 i1 i2 ∧ Arv Z Hc12 ts3 ts_k3 .double (2 : Int32) [(dV tu0), (dV tu1)] dZ ∧ Exa Z Hc12 ts3 "[D" ∧ Arv Z Hc12 vs3 vs_k3 .double (2 : Int32) [(dV vu0), (dV vu1)] dZ ∧ Exa Z Hc12 vs3 "[D" ∧ Arv Z Hc12 ea1 ea_k1 .double (6 : Int32) [dZ, (dV vu0), (dV vu1), dZ, dZ, dZ] dZ ∧ n0 ≤ ts3 ∧ n0 ≤ vs3 ∧ h0.size ≤ ts3 ∧ h0.size ≤ vs3 ∧ ea1 ≠ ts3 ∧ ea1 ≠ vs3 ∧ Pr p e below I0 T12 (mkF m 210 (LA p1 p2 p3 p4 p5 (.val (.int (2 : Int32))) tu0 tu1 tu2 vu0 vu1 vu2 (.val (.ref ts3)) (.val (.ref vs3)) (.val (.ref ea1)) (.val (.int (4 : Int32))) .unset .unset) []) := by
  obtain ⟨T3, lo3, H3, ts3, ts_k3, vs3, vs_k3, X3, N3, e3, Zs3, KC3, P3_0, P3_1, P3_2, P3_3, P3_4, P3_5, o3_0, o3_1, o3_2, o3_3, o3_4, o3_5, st3⟩ := sM2 hw hx hby hml hZ hown hnm p1 p2 p3 p4 p5 tu0 tu1 tu2 vu0 vu1 vu2 ea1 ea_k1 (h0.size) aE kE aC kC lC i0 i1 i2 X1 N1 e1 Zs1 KC1 P1_1 P1_0 hkB
  have hk4 : ¬ ((p3 &&& (3 : Int32)) = (0 : Int32)) := hp1
  obtain ⟨cl5, Ar5, aq5, aS5, aN5, aH5, aG5⟩ := id P3_1
  have hin6 : ¬ ((1 : Int32) < 0 ∨ cl5.slots.size ≤ ((1 : Int32)).toNatClampNeg) := inb_of aS5 ⟨by decide, by decide⟩
  obtain ⟨T6, h6, X6, e6, W6, st6⟩ := stD X3 hx hZ e3 Ar5 (j := (1 : Int32)) hin6 (g := (mkF m 203 (LA p1 p2 p3 p4 p5 (.val (.int (2 : Int32))) tu0 tu1 tu2 vu0 vu1 vu2 (.val (.ref ts3)) (.val (.ref vs3)) (.val (.ref ea1)) (.val (.int (4 : Int32))) .unset .unset) [(dV vu0), (.int (1 : Int32)), (.ref ea1)])) rfl rfl (hb hby at_203)
  have N6 := Fr.snoc X6 N3 o1_0
  have Vq6 : Arv Z h6 ea1 ea_k1 .double (6 : Int32) [dZ, (dV vu0), dZ, dZ, dZ, dZ] dZ := Arv.set Ar5 aq5 aS5 aN5 aH5 aG5 rfl W6 1 rfl (Nat.le_of_ble_eq_true rfl)
  replace P3_0 := P3_0.wr W6 (Nat.le_trans hkB o1_1)
  replace P3_2 := P3_2.other W6 (Ne.symm o3_4)
  replace P3_3 := P3_3.wr W6
  replace P3_4 := P3_4.other W6 (Ne.symm o3_5)
  replace P3_5 := P3_5.wr W6
  have Zs7 := Nat.le_trans Zs3 (Keep.of_wr W6).1
  have KC7 := KC3.wr W6 (Or.inr o1_1)
  obtain ⟨cl8, Ar8, aq8, aS8, aN8, aH8, aG8⟩ := id Vq6
  have hin9 : ¬ ((2 : Int32) < 0 ∨ cl8.slots.size ≤ ((2 : Int32)).toNatClampNeg) := inb_of aS8 ⟨by decide, by decide⟩
  obtain ⟨T9, h9, X9, e9, W9, st9⟩ := stD X6 hx hZ e6 Ar8 (j := (2 : Int32)) hin9 (g := (mkF m 209 (LA p1 p2 p3 p4 p5 (.val (.int (2 : Int32))) tu0 tu1 tu2 vu0 vu1 vu2 (.val (.ref ts3)) (.val (.ref vs3)) (.val (.ref ea1)) (.val (.int (4 : Int32))) .unset .unset) [(dV vu1), (.int (2 : Int32)), (.ref ea1)])) rfl rfl (hb hby at_209)
  have N9 := Fr.snoc X9 N6 o1_0
  have Vq9 : Arv Z h9 ea1 ea_k1 .double (6 : Int32) [dZ, (dV vu0), (dV vu1), dZ, dZ, dZ] dZ := Arv.set Ar8 aq8 aS8 aN8 aH8 aG8 rfl W9 2 rfl (Nat.le_of_ble_eq_true rfl)
  replace P3_0 := P3_0.wr W9 (Nat.le_trans hkB o1_1)
  replace P3_2 := P3_2.other W9 (Ne.symm o3_4)
  replace P3_3 := P3_3.wr W9
  replace P3_4 := P3_4.other W9 (Ne.symm o3_5)
  replace P3_5 := P3_5.wr W9
  have Zs10 := Nat.le_trans Zs7 (Keep.of_wr W9).1
  have KC10 := KC7.wr W9 (Or.inr o1_1)
  have pre11 : Pr p e below I0 T9 (mkF m 210 (LA p1 p2 p3 p4 p5 (.val (.int (2 : Int32))) tu0 tu1 tu2 vu0 vu1 vu2 (.val (.ref ts3)) (.val (.ref vs3)) (.val (.ref ea1)) (.val (.int (4 : Int32))) .unset .unset) []) := by
   intro tg kk
   refine pre2 tg ?_
   refine st3 _ ?_
   refine XS.iload X3.here hx rfl (hb hby at_178) rfl ?_
   refine XS.ifYes X3.here hx rfl (pc0 := 180) (pc' := 195) rfl (hb hby at_180) rfl (XT.i0_ne_t hk4) (by decide) (by decide) ?_
   refine XS.iconst X3.here hx rfl (hb hby at_195) ?_
   refine XS.istore X3.here hx rfl (hb hby at_196) rfl (l' := (LA p1 p2 p3 p4 p5 (.val (.int (2 : Int32))) tu0 tu1 tu2 vu0 vu1 vu2 (.val (.ref ts3)) (.val (.ref vs3)) (.val (.ref ea1)) (.val (.int (4 : Int32))) .unset .unset)) rfl ?_
   refine XS.aload X3.here hx rfl (hb hby at_198) rfl rfl ?_
   refine XS.iconst X3.here hx rfl (hb hby at_200) ?_
   refine XS.dload X3.here hx rfl (hb hby at_201) rfl ?_
   refine st6 _ ?_
   refine XS.aload X6.here hx rfl (hb hby at_204) rfl rfl ?_
   refine XS.iconst X6.here hx rfl (hb hby at_206) ?_
   refine XS.dload X6.here hx rfl (hb hby at_207) rfl ?_
   refine st9 _ ?_
   exact kk
  exact ⟨T9, _, h9, ts3, vs3, ts_k3, vs_k3, X9, N9, e9, Zs10, KC10, P3_0, P3_2, P3_3, P3_4, P3_5, Vq9, o3_0, o3_2, o3_1, o3_3, o3_4, o3_5, pre11⟩
 clear pre2 X1 N1 e1 KC1 Zs1 P1_0 P1_1
 obtain ⟨T23, lo23, Hc23, b16, rb21, X23, N23, e23, Zs23, KC23, gnc23_3, szc23_3, nesc23_2, nesc23_3, nesc23_4, pre23⟩ : ∃ (T23 : State) (lo23 : List Loc) (Hc23 : Heap) (b16 : Addr) (rb21 : Addr), Stand p l e room_1 s m #[(.int p1), (.int p2), (.int p3), (.int p4), (.int p5)] below meth c T23 lo23 21 124 ∧ Fr n0 lo23 ∧ T23.heap = Hc23 ∧ n0 ≤ Hc23.size ∧ Keep h0 Hc23 [] ∧ n0 ≤ b16 ∧ h0.size ≤ b16 ∧ ts3 ≠ b16 ∧ vs3 ≠ b16 ∧ ea1 ≠ b16 ∧ Pr p e below I0 T23 (mkF m 481 (LA p1 p2 p3 p4 p5 (.val (.int (2 : Int32))) tu0 tu1 tu2 vu0 vu1 vu2 (.val (.ref ts3)) (.val (.ref vs3)) (.val (.ref ea1)) (.val (.int (4 : Int32))) (.val (.ref b16)) (.val (.ref rb21))) []) := by
  obtain ⟨cl13, Ar13, aq13, aS13, aN13, aH13, aG13⟩ := id Vq9_c12
  have hin14 : ¬ ((3 : Int32) < 0 ∨ cl13.slots.size ≤ ((3 : Int32)).toNatClampNeg) := inb_of aS13 ⟨by decide, by decide⟩
  obtain ⟨T14, h14, X14, e14, W14, st14⟩ := stD X12 hx hZ e12 Ar13 (j := (3 : Int32)) hin14 (g := (mkF m 215 (LA p1 p2 p3 p4 p5 (.val (.int (2 : Int32))) tu0 tu1 tu2 vu0 vu1 vu2 (.val (.ref ts3)) (.val (.ref vs3)) (.val (.ref ea1)) (.val (.int (4 : Int32))) .unset .unset) [(dV vu1), (.int (3 : Int32)), (.ref ea1)])) rfl rfl (hb hby at_215)
  have N14 := Fr.snoc X14 N12 o1_0
  have Vq14 : Arv Z h14 ea1 ea_k1 .double (6 : Int32) [dZ, (dV vu0), (dV vu1), (dV vu1), dZ, dZ] dZ := Arv.set Ar13 aq13 aS13 aN13 aH13 aG13 rfl W14 3 rfl (Nat.le_of_ble_eq_true rfl)
  replace P3_0_c12 := P3_0_c12.wr W14 (Nat.le_trans hkB o1_1)
  replace P3_2_c12 := P3_2_c12.other W14 (Ne.symm nesc12_0)
  replace P3_3_c12 := P3_3_c12.wr W14
  replace P3_4_c12 := P3_4_c12.other W14 (Ne.symm nesc12_1)
  replace P3_5_c12 := P3_5_c12.wr W14
  have Zs15 := Nat.le_trans Zs12 (Keep.of_wr W14).1
  have KC15 := KC12.wr W14 (Or.inr o1_1)
  obtain ⟨T16, h16, X16, e16, E16, A16, D16, -, st16⟩ := newO X14 hx hZ hown (tw1 hw) (tw2 hw) (tw3 hw) e14 (g := (mkF m 373 (LA p1 p2 p3 p4 p5 (.val (.int (2 : Int32))) tu0 tu1 tu2 vu0 vu1 vu2 (.val (.ref ts3)) (.val (.ref vs3)) (.val (.ref ea1)) (.val (.int (4 : Int32))) .unset .unset) [])) rfl (hb hby at_373) (by decide) (by decide)
  obtain ⟨b16, g16⟩ : ∃ z, z = h14.size := ⟨_, rfl⟩
  rw [← g16] at A16 D16 st16
  have ne_ts3_b16 := own_ne P3_2_c12.lt g16
  have ne_vs3_b16 := own_ne P3_4_c12.lt g16
  have ne_ea1_b16 := own_ne Vq14.lt g16
  have gn_b16 := own_le Zs15 g16
  have sz_b16 := own_le KC15.1 g16
  replace P3_0_c12 := P3_0_c12.ext E16
  replace P3_2_c12 := P3_2_c12.ext E16
  replace P3_3_c12 := P3_3_c12.ext E16
  replace P3_4_c12 := P3_4_c12.ext E16
  replace P3_5_c12 := P3_5_c12.ext E16
  replace Vq14 := Vq14.ext E16
  have Zs17 := Nat.le_trans Zs15 E16.1
  have KC17 := KC15.ext E16
  have E_b16 : Exa Z h16 b16 cF := A16
  have F_times_b16 : Fld Z h16 b16 cF "times" "[D" .null := D16 (Or.inr (tw20 hw)) (ty := (.array .double)) (by decide)
  have F_values_b16 : Fld Z h16 b16 cF "values" "[D" .null := D16 (Or.inr (tw22 hw)) (ty := (.array .double)) (by decide)
  have F_instants_b16 : Fld Z h16 b16 cF "instants" "[D" .null := D16 (Or.inr (tw59 hw)) (ty := (.array .double)) (by decide)
  have F_lefts_b16 : Fld Z h16 b16 cF "lefts" "[D" .null := D16 (Or.inr (tw61 hw)) (ty := (.array .double)) (by decide)
  have F_rights_b16 : Fld Z h16 b16 cF "rights" "[D" .null := D16 (Or.inr (tw63 hw)) (ty := (.array .double)) (by decide)
  obtain ⟨_, _, ⟨T19, L19, k19, n19⟩, -, X19, ⟨Lc19, hQ19, l19, y19, z19⟩, st19⟩ := X16.specialBack hx (y := M18) rfl hown (mvT hZ (tw4 hw)) (mvT hZ (tw5 hw)) (mvT hZ (tw6 hw)) (by decide) (backOf (W := 1) (rmC2t l Z a0 hw [] b16 ts3 ts_k3 vs3 vs_k3 (h0.size) aE kE aC kC lC i0 i1 i2 tu0 tu1 vu0 vu1 h16 n0 Zs17 E_b16 F_times_b16 F_values_b16 F_instants_b16 F_lefts_b16 F_rights_b16 P3_2_c12 P3_3_c12 P3_4_c12 P3_5_c12 P3_0_c12 (Nat.le_trans hkB KC17.1) (Nat.le_trans hkB sz_b16) gn_b16 ne_ts3_b16 ne_vs3_b16 b_tu0 b_tu1 b_vu0 b_vu1 ov0 ot1 ov1 ps1) hZ (tw6 hw) (tw3 hw) (by decide) (by decide)) (g := (mkF m 381 (LA p1 p2 p3 p4 p5 (.val (.int (2 : Int32))) tu0 tu1 tu2 vu0 vu1 vu2 (.val (.ref ts3)) (.val (.ref vs3)) (.val (.ref ea1)) (.val (.int (4 : Int32))) .unset .unset) [(.ref vs3), (.ref ts3), (.ref b16), (.ref b16)])) rfl (by rw [hml]; rfl) (Steps.refl _) (a := b16) (argsL := [(.ref ts3), (.ref vs3)]) (rest := [(.ref b16)]) (lenOf pd___D_D_V rfl) rfl (own_mr rfl) (hb hby at_381) (fun _ _ => ⟨rfl, e16, (by decide : 4 + 7 ≤ _), (by decide : 15 + 28 ≤ _)⟩)
  dsimp only [Pt.U, Pt.locs, Pt.cells, Pt.slots] at X19 l19 y19 z19 st19 hQ19
  rw [l19, y19, z19] at X19
  obtain ⟨di19, di_k19, dl19, dl_k19, dr19, dr_k19, rfl, N19q, K19, gdi19, sdi19, gdl19, sdl19, gdr19, sdr19, P19_0, P19_1, P19_2, P19_3, P19_4, P19_5, P19_6⟩ := hQ19
  have N19 := Fr.app N14 N19q
  have pl24_b16 := own_plain_Exa E_b16
  replace P3_0_c12 := P3_0_c12.keep K19 (allS (Nat.le_trans hkB sz_b16) all0) (allS pl24_b16 all0)
  replace P3_2_c12 := P3_2_c12.keep K19 (ninS ne_ts3_b16 nin0)
  replace P3_3_c12 := P3_3_c12.keep K19
  replace P3_4_c12 := P3_4_c12.keep K19 (ninS ne_vs3_b16 nin0)
  replace P3_5_c12 := P3_5_c12.keep K19
  replace Vq14 := Vq14.keep K19 (ninS ne_ea1_b16 nin0)
  replace E_b16 := E_b16.keep K19
  have Zs20 := Nat.le_trans Zs17 K19.1
  have KC20 := KC17.trans K19 (allS (Or.inr sz_b16) all0)
  have szdi19 := Nat.le_trans KC17.1 sdi19
  have szdl19 := Nat.le_trans KC17.1 sdl19
  have szdr19 := Nat.le_trans KC17.1 sdr19
  obtain ⟨T21, lo21, H21, rb21, X21, N21, e21, Zs21, KC21, st21⟩ := sT2 hw hx hby hml hZ hown hnm p1 p2 p3 p4 p5 tu0 tu1 tu2 vu0 vu1 vu2 ((2 : Int32)) ts3 vs3 ea1 ea_k1 b16 di19 di_k19 dl19 dl_k19 dr19 dr_k19 tu0 tu1 vu1 vu0 vu1 (X19.more (by decide) (by decide)) N19 rfl Zs20 KC20 P19_0 P19_1 P19_2 P19_3 P19_4 P19_5 P19_6 Vq14 b_vu1 b_vu0 b_vu1
  have pre22 : Pr p e below I0 T21 (mkF m 481 (LA p1 p2 p3 p4 p5 (.val (.int (2 : Int32))) tu0 tu1 tu2 vu0 vu1 vu2 (.val (.ref ts3)) (.val (.ref vs3)) (.val (.ref ea1)) (.val (.int (4 : Int32))) (.val (.ref b16)) (.val (.ref rb21))) []) := by
   intro tg kk
   refine pre12 tg ?_
   refine XS.aload X12.here hx rfl (hb hby at_210) rfl rfl ?_
   refine XS.iconst X12.here hx rfl (hb hby at_212) ?_
   refine XS.dload X12.here hx rfl (hb hby at_213) rfl ?_
   refine st14 _ ?_
   refine XS.goto X14.here hx rfl (pc0 := 216) (pc' := 373) rfl (hb hby at_216) (by decide) (by decide) ?_
   refine st16 _ ?_
   refine XS.dup X16.here hx rfl (hb hby at_376) rfl rfl ?_
   refine XS.aload X16.here hx rfl (hb hby at_377) rfl rfl ?_
   refine XS.aload X16.here hx rfl (hb hby at_379) rfl rfl ?_
   refine st19.trans ?_
   refine XS.astore X19.here hx rfl (hb hby at_384) rfl rfl (l' := (LA p1 p2 p3 p4 p5 (.val (.int (2 : Int32))) tu0 tu1 tu2 vu0 vu1 vu2 (.val (.ref ts3)) (.val (.ref vs3)) (.val (.ref ea1)) (.val (.int (4 : Int32))) (.val (.ref b16)) .unset)) rfl ?_
   refine st21 _ ?_
   exact kk
  exact ⟨T21, _, H21, b16, rb21, X21, N21, e21, Zs21, KC21, gn_b16, sz_b16, ne_ts3_b16, ne_vs3_b16, ne_ea1_b16, pre22⟩
 clear pre12 X12 N12 e12 KC12 Zs12 P3_0_c12 P3_2_c12 P3_3_c12 P3_4_c12 P3_5_c12 Vq9_c12
 obtain ⟨fs, hr, hrun, hended, hW, hsame⟩ := X23.leave (v := some (.int (1 : Int32))) (fun h => by rw [Bd.returns] at h; cases h)
 refine ⟨_, _, pre23 _ ?_, hrun, hended, _, _, rfl, ?_, ⟨_, rfl⟩, hW, hsame.mono (by decide) (by decide)⟩
 ·skip
  refine XS.iconst X23.here hx rfl (hb hby at_481) ?_
  refine XS.goto X23.here hx rfl (pc0 := 482) (pc' := 486) rfl (hb hby at_482) (by decide) (by decide) ?_
  exact retN X23 hx (t := .boolean) Bd.returns (by simp) (hb hby at_486) hr
 ·show Q0 Z p1 p2 p3 p4 p5 tu0 tu1 tu2 vu0 vu1 vu2 aE kE aC kC lC i0 i1 i2 h0 n0 _ T23.heap _
  rw [e23]
  exact ⟨rfl, N23⟩
set_option maxRecDepth 65536 in
set_option maxHeartbeats 40000000 in
theorem rm0_2f (l : Launch) (Z : State) (a0 : Array Value) (hw : HW a0 Z) (ws : List Jvm.Cond) (p1 : Int32) (p2 : Int32) (p3 : Int32) (p4 : Int32) (p5 : Int32) (tu0 : Int64) (tu1 : Int64) (tu2 : Int64) (vu0 : Int64) (vu1 : Int64) (vu2 : Int64) (aE : Addr) (kE : ClassId) (aC : Addr) (kC : ClassId) (lC : List Value) (i0 : Addr) (i1 : Addr) (i2 : Addr) (h0 : Heap) (n0 : Nat) (Z0 : n0 ≤ h0.size) (hn : (p1 &&& (3 : Int32)) = (2 : Int32)) (hp1 : (p3 &&& (3 : Int32)) = (0 : Int32)) (ps1 : ¬ tu0 < tu1) (htu0 : tu0 = (((p2 &&& (1023 : Int32)) - (512 : Int32))).toInt64) (htu1 : tu1 = (tu0 + ((p3 &&& (3 : Int32))).toInt64)) (htu2 : tu2 = (tu1 + ((((p3.toUInt32 >>> ((2 : Int32) &&& 31).toUInt32).toInt32) &&& (3 : Int32))).toInt64)) (hvu0 : vu0 = ((p4 &&& (255 : Int32))).toInt64) (hvu1 : vu1 = (vu0 + ((p5 &&& (7 : Int32))).toInt64)) (hvu2 : vu2 = (vu1 + ((((p5.toUInt32 >>> ((3 : Int32) &&& 31).toUInt32).toInt32) &&& (7 : Int32))).toInt64)) (b_tu0 : B53 tu0) (b_tu1 : B53 tu1) (b_tu2 : B53 tu2) (b_vu0 : B53 vu0) (b_vu1 : B53 vu1) (b_vu2 : B53 vu2) (ov0 : ¬ vu0 < (0 : Int64)) (ot1 : ¬ tu1 < tu0) (ov1 : ¬ vu1 < vu0) (ot2 : ¬ tu2 < tu1) (ov2 : ¬ vu2 < vu1) (EN : EnvJ Z h0.size h0 aE kE aC kC lC i0 i1 i2) :
    MetFree l x (head1 (Jvm.Cond.code x code maxLocals ret :: ws) room_1) (fun ar UU => ar = #[(.int p1), (.int p2), (.int p3), (.int p4), (.int p5)] ∧ Z.Warmed39 UU.vm ∧ UU.heap = h0) (fun _ _ _ _ _ => True) (fun _ UU oo UU' => ∃ vv LL, oo = .returned vv ∧ Q0 Z p1 p2 p3 p4 p5 tu0 tu1 tu2 vu0 vu1 vu2 aE kE aC kC lC i0 i1 i2 h0 n0 vv UU'.heap LL ∧ FrameEnd UU oo UU' LL room_1.cells room_1.slots) := by
 refine MetFree.of_bodySF (plainFor_of_name pn_0) hisR ?_
 intro p e s m args below meth c s₁ Bd hml0 hP hK
 obtain ⟨rfl, hZ, hh⟩ := hP
 have hx := Bd.exec
 have hby := Bd.bytes
 have hml : c.maxLocals = 26 := hml0
 have hown : s.vm.findClass "com/example/narrow_bound/narrowbound/witness/CumulativeFunctionLevelsPinLaw" = some m.cls := findClass_of_methodNamed Bd.named
 have hnm := (name_of_methodNamed Bd.named Bd.method).1
 have X0 : Stand p l e room_1 s m #[(.int p1), (.int p2), (.int p3), (.int p4), (.int p5)] below meth c s₁ [] 0 0 := Stand.of_body Bd
 have e0 : s₁.heap = h0 := by rw [← hh, Bd.state]; rfl
 have N0 := Fr.nil n0
 have KC0 : Keep h0 h0 [] := Keep.refl h0 []
 have pre0 : ∀ tgt, Steps p.tables e below (s₁.setTop (mkF m 0 #[.val (.int p1), .val (.int p2), .val (.int p3), .val (.int p4), .val (.int p5), .unset, .unset, .unset, .unset, .unset, .unset, .unset, .unset, .unset, .unset, .unset, .unset, .unset, .unset, .unset, .unset, .unset, .unset, .unset, .unset, .unset] [])) tgt → Steps p.tables e below (s₁.setTop (entryFrame m #[(.int p1), (.int p2), (.int p3), (.int p4), (.int p5)] maxLocals)) tgt := fun tgt kk => castTop (ef0_IIIII m (p1) (p2) (p3) (p4) (p5)) kk
 have hkB := Nat.le_refl h0.size
 generalize hI : s₁.setTop (entryFrame m #[(.int p1), (.int p2), (.int p3), (.int p4), (.int p5)] maxLocals) = I0 at pre0 ⊢
 obtain ⟨T1, lo1, H1, ea1, ea_k1, X1, N1, e1, Zs1, KC1, P1_0, P1_1, o1_0, o1_1, st1⟩ := sP hw hx hby hml hZ hown hnm p1 p2 p3 p4 p5 tu0 tu1 tu2 vu0 vu1 vu2 (h0.size) aE kE aC kC lC i0 i1 i2 X0 N0 e0 Z0 KC0 htu0 htu1 htu2 hvu0 hvu1 hvu2 b_tu0 b_tu1 b_tu2 b_vu0 b_vu1 b_vu2 EN hkB
 have pre2 : Pr p e below I0 T1 (mkF m 83 (LA p1 p2 p3 p4 p5 (.val (.int (p1 &&& (3 : Int32)))) tu0 tu1 tu2 vu0 vu1 vu2 .unset .unset (.val (.ref ea1)) .unset .unset .unset) []) := by
  intro tg kk
  refine pre0 tg ?_
  refine st1 _ ?_
  exact kk
 rw [hn] at pre2
 obtain ⟨T11, lo11, Hc11, b8, ts3, vs3, ts_k3, vs_k3, X11, N11, e11, Zs11, KC11, P3_0_c11, P3_2_c11, P3_3_c11, P3_4_c11, P3_5_c11, Vq6_c11, E_b8_c11, F_times_b8_c11, F_values_b8_c11, F_instants_b8_c11, F_lefts_b8_c11, F_rights_b8_c11, gnc11_1, gnc11_2, gnc11_3, szc11_1, szc11_2, szc11_3, nesc11_0, nesc11_1, nesc11_2, nesc11_3, nesc11_4, pre11⟩ : ∃ (T11 : State) (lo11 : List Loc) (Hc11 : Heap) (b8 : Addr) (ts3 : Addr) (vs3 : Addr) (ts_k3 : ClassId) (vs_k3 : ClassId), Stand p l e room_1 s m #[(.int p1), (.int p2), (.int p3), (.int p4), (.int p5)] below meth c T11 lo11 4 15 ∧ Fr n0 lo11 ∧ T11.heap = Hc11 ∧ n0 ≤ Hc11.size ∧ Keep h0 Hc11 [] ∧ EnvJ Z h0.size Hc11 aE kE aC kC lC i0 i1 i2 ∧ Arv Z Hc11 ts3 ts_k3 .double (2 : Int32) [(dV tu0), (dV tu1)] dZ ∧ Exa Z Hc11 ts3 "[D" ∧ Arv Z Hc11 vs3 vs_k3 .double (2 : Int32) [(dV vu0), (dV vu1)] dZ ∧ Exa Z Hc11 vs3 "[D" ∧ Arv Z Hc11 ea1 ea_k1 .double (6 : Int32) [dZ, (dV vu1), dZ, dZ, dZ, dZ] dZ ∧ Exa Z Hc11 b8 cF ∧ Fld Z Hc11 b8 cF "times" "[D" .null ∧ Fld Z Hc11 b8 cF "values" "[D" .null ∧ Fld Z Hc11 b8 cF "instants" "[D" .null ∧ Fld Z Hc11 b8 cF "lefts" "[D" .null ∧ Fld Z Hc11 b8 cF "rights" "[D" .null ∧ n0 ≤ ts3 ∧ n0 ≤ vs3 ∧ n0 ≤ b8 ∧ h0.size ≤ ts3 ∧ h0.size ≤ vs3 ∧ h0.size ≤ b8 ∧ ea1 ≠ ts3 ∧ ea1 ≠ vs3 ∧ ts3 ≠ b8 ∧ vs3 ≠ b8 ∧ ea1 ≠ b8 ∧ Pr p e below I0 T11 (mkF m 376 (LA p1 p2 p3 p4 p5 (.val (.int (2 : Int32))) tu0 tu1 tu2 vu0 vu1 vu2 (.val (.ref ts3)) (.val (.ref vs3)) (.val (.ref ea1)) (.val (.int (2 : Int32))) .unset .unset) [(.ref b8)]) := by
  obtain ⟨T3, lo3, H3, ts3, ts_k3, vs3, vs_k3, X3, N3, e3, Zs3, KC3, P3_0, P3_1, P3_2, P3_3, P3_4, P3_5, o3_0, o3_1, o3_2, o3_3, o3_4, o3_5, st3⟩ := sM2 hw hx hby hml hZ hown hnm p1 p2 p3 p4 p5 tu0 tu1 tu2 vu0 vu1 vu2 ea1 ea_k1 (h0.size) aE kE aC kC lC i0 i1 i2 X1 N1 e1 Zs1 KC1 P1_1 P1_0 hkB
  have hk4 : (p3 &&& (3 : Int32)) = (0 : Int32) := hp1
  obtain ⟨cl5, Ar5, aq5, aS5, aN5, aH5, aG5⟩ := id P3_1
  have hin6 : ¬ ((1 : Int32) < 0 ∨ cl5.slots.size ≤ ((1 : Int32)).toNatClampNeg) := inb_of aS5 ⟨by decide, by decide⟩
  obtain ⟨T6, h6, X6, e6, W6, st6⟩ := stD X3 hx hZ e3 Ar5 (j := (1 : Int32)) hin6 (g := (mkF m 191 (LA p1 p2 p3 p4 p5 (.val (.int (2 : Int32))) tu0 tu1 tu2 vu0 vu1 vu2 (.val (.ref ts3)) (.val (.ref vs3)) (.val (.ref ea1)) (.val (.int (2 : Int32))) .unset .unset) [(dV vu1), (.int (1 : Int32)), (.ref ea1)])) rfl rfl (hb hby at_191)
  have N6 := Fr.snoc X6 N3 o1_0
  have Vq6 : Arv Z h6 ea1 ea_k1 .double (6 : Int32) [dZ, (dV vu1), dZ, dZ, dZ, dZ] dZ := Arv.set Ar5 aq5 aS5 aN5 aH5 aG5 rfl W6 1 rfl (Nat.le_of_ble_eq_true rfl)
  replace P3_0 := P3_0.wr W6 (Nat.le_trans hkB o1_1)
  replace P3_2 := P3_2.other W6 (Ne.symm o3_4)
  replace P3_3 := P3_3.wr W6
  replace P3_4 := P3_4.other W6 (Ne.symm o3_5)
  replace P3_5 := P3_5.wr W6
  have Zs7 := Nat.le_trans Zs3 (Keep.of_wr W6).1
  have KC7 := KC3.wr W6 (Or.inr o1_1)
  obtain ⟨T8, h8, X8, e8, E8, A8, D8, -, st8⟩ := newO X6 hx hZ hown (tw1 hw) (tw2 hw) (tw3 hw) e6 (g := (mkF m 373 (LA p1 p2 p3 p4 p5 (.val (.int (2 : Int32))) tu0 tu1 tu2 vu0 vu1 vu2 (.val (.ref ts3)) (.val (.ref vs3)) (.val (.ref ea1)) (.val (.int (2 : Int32))) .unset .unset) [])) rfl (hb hby at_373) (by decide) (by decide)
  obtain ⟨b8, g8⟩ : ∃ z, z = h6.size := ⟨_, rfl⟩
  rw [← g8] at A8 D8 st8
  have ne_ts3_b8 := own_ne P3_2.lt g8
  have ne_vs3_b8 := own_ne P3_4.lt g8
  have ne_ea1_b8 := own_ne Vq6.lt g8
  have gn_b8 := own_le Zs7 g8
  have sz_b8 := own_le KC7.1 g8
  replace P3_0 := P3_0.ext E8
  replace P3_2 := P3_2.ext E8
  replace P3_3 := P3_3.ext E8
  replace P3_4 := P3_4.ext E8
  replace P3_5 := P3_5.ext E8
  replace Vq6 := Vq6.ext E8
  have Zs9 := Nat.le_trans Zs7 E8.1
  have KC9 := KC7.ext E8
  have E_b8 : Exa Z h8 b8 cF := A8
  have F_times_b8 : Fld Z h8 b8 cF "times" "[D" .null := D8 (Or.inr (tw20 hw)) (ty := (.array .double)) (by decide)
  have F_values_b8 : Fld Z h8 b8 cF "values" "[D" .null := D8 (Or.inr (tw22 hw)) (ty := (.array .double)) (by decide)
  have F_instants_b8 : Fld Z h8 b8 cF "instants" "[D" .null := D8 (Or.inr (tw59 hw)) (ty := (.array .double)) (by decide)
  have F_lefts_b8 : Fld Z h8 b8 cF "lefts" "[D" .null := D8 (Or.inr (tw61 hw)) (ty := (.array .double)) (by decide)
  have F_rights_b8 : Fld Z h8 b8 cF "rights" "[D" .null := D8 (Or.inr (tw63 hw)) (ty := (.array .double)) (by decide)
  have pre10 : Pr p e below I0 T8 (mkF m 376 (LA p1 p2 p3 p4 p5 (.val (.int (2 : Int32))) tu0 tu1 tu2 vu0 vu1 vu2 (.val (.ref ts3)) (.val (.ref vs3)) (.val (.ref ea1)) (.val (.int (2 : Int32))) .unset .unset) [(.ref b8)]) := by
   intro tg kk
   refine pre2 tg ?_
   refine st3 _ ?_
   refine XS.iload X3.here hx rfl (hb hby at_178) rfl ?_
   refine XS.ifNo X3.here hx rfl (hb hby at_180) rfl (XT.i0_ne_f hk4) ?_
   refine XS.iconst X3.here hx rfl (hb hby at_183) ?_
   refine XS.istore X3.here hx rfl (hb hby at_184) rfl (l' := (LA p1 p2 p3 p4 p5 (.val (.int (2 : Int32))) tu0 tu1 tu2 vu0 vu1 vu2 (.val (.ref ts3)) (.val (.ref vs3)) (.val (.ref ea1)) (.val (.int (2 : Int32))) .unset .unset)) rfl ?_
   refine XS.aload X3.here hx rfl (hb hby at_186) rfl rfl ?_
   refine XS.iconst X3.here hx rfl (hb hby at_188) ?_
   refine XS.dload X3.here hx rfl (hb hby at_189) rfl ?_
   refine st6 _ ?_
   refine XS.goto X6.here hx rfl (pc0 := 192) (pc' := 373) rfl (hb hby at_192) (by decide) (by decide) ?_
   refine st8 _ ?_
   exact kk
  exact ⟨T8, _, h8, b8, ts3, vs3, ts_k3, vs_k3, X8, N6, e8, Zs9, KC9, P3_0, P3_2, P3_3, P3_4, P3_5, Vq6, E_b8, F_times_b8, F_values_b8, F_instants_b8, F_lefts_b8, F_rights_b8, o3_0, o3_2, gn_b8, o3_1, o3_3, sz_b8, o3_4, o3_5, ne_ts3_b8, ne_vs3_b8, ne_ea1_b8, pre10⟩
 clear pre2 X1 N1 e1 KC1 Zs1 P1_0 P1_1
 obtain ⟨_, _, ⟨T13, L13, k13, n13⟩, -, X13, ⟨Lc13, hQ13, l13, y13, z13⟩, st13⟩ := X11.specialBack hx (y := M18) rfl hown (mvT hZ (tw4 hw)) (mvT hZ (tw5 hw)) (mvT hZ (tw6 hw)) (by decide) (backOf (W := 1) (rmC2f l Z a0 hw [] b8 ts3 ts_k3 vs3 vs_k3 (h0.size) aE kE aC kC lC i0 i1 i2 tu0 tu1 vu0 vu1 Hc11 n0 Zs11 E_b8_c11 F_times_b8_c11 F_values_b8_c11 F_instants_b8_c11 F_lefts_b8_c11 F_rights_b8_c11 P3_2_c11 P3_3_c11 P3_4_c11 P3_5_c11 P3_0_c11 (Nat.le_trans hkB KC11.1) (Nat.le_trans hkB szc11_3) gnc11_3 nesc11_2 nesc11_3 b_tu0 b_tu1 b_vu0 b_vu1 ov0 ot1 ov1 ps1) hZ (tw6 hw) (tw3 hw) (by decide) (by decide)) (g := (mkF m 381 (LA p1 p2 p3 p4 p5 (.val (.int (2 : Int32))) tu0 tu1 tu2 vu0 vu1 vu2 (.val (.ref ts3)) (.val (.ref vs3)) (.val (.ref ea1)) (.val (.int (2 : Int32))) .unset .unset) [(.ref vs3), (.ref ts3), (.ref b8), (.ref b8)])) rfl (by rw [hml]; rfl) (Steps.refl _) (a := b8) (argsL := [(.ref ts3), (.ref vs3)]) (rest := [(.ref b8)]) (lenOf pd___D_D_V rfl) rfl (own_mr rfl) (hb hby at_381) (fun _ _ => ⟨rfl, e11, (by decide : 4 + 7 ≤ _), (by decide : 15 + 28 ≤ _)⟩)
 dsimp only [Pt.U, Pt.locs, Pt.cells, Pt.slots] at X13 l13 y13 z13 st13 hQ13
 rw [l13, y13, z13] at X13
 obtain ⟨di13, di_k13, dl13, dl_k13, dr13, dr_k13, rfl, N13q, K13, gdi13, sdi13, gdl13, sdl13, gdr13, sdr13, P13_0, P13_1, P13_2, P13_3, P13_4, P13_5, P13_6⟩ := hQ13
 have N13 := Fr.app N11 N13q
 have pl16_b8 := own_plain_Exa E_b8_c11
 replace P3_0_c11 := P3_0_c11.keep K13 (allS (Nat.le_trans hkB szc11_3) all0) (allS pl16_b8 all0)
 replace P3_2_c11 := P3_2_c11.keep K13 (ninS nesc11_2 nin0)
 replace P3_3_c11 := P3_3_c11.keep K13
 replace P3_4_c11 := P3_4_c11.keep K13 (ninS nesc11_3 nin0)
 replace P3_5_c11 := P3_5_c11.keep K13
 replace Vq6_c11 := Vq6_c11.keep K13 (ninS nesc11_4 nin0)
 replace E_b8_c11 := E_b8_c11.keep K13
 have Zs14 := Nat.le_trans Zs11 K13.1
 have KC14 := KC11.trans K13 (allS (Or.inr szc11_3) all0)
 have szdi13 := Nat.le_trans KC11.1 sdi13
 have szdl13 := Nat.le_trans KC11.1 sdl13
 have szdr13 := Nat.le_trans KC11.1 sdr13
 obtain ⟨T15, lo15, H15, rb15, X15, N15, e15, Zs15, KC15, st15⟩ := sT1 hw hx hby hml hZ hown hnm p1 p2 p3 p4 p5 tu0 tu1 tu2 vu0 vu1 vu2 ((2 : Int32)) ts3 vs3 ea1 ea_k1 b8 di13 di_k13 dl13 dl_k13 dr13 dr_k13 tu0 vu1 (X13.more (by decide) (by decide)) N13 rfl Zs14 KC14 P13_0 P13_1 P13_2 P13_3 P13_4 P13_5 P13_6 Vq6_c11 b_vu1
 obtain ⟨fs, hr, hrun, hended, hW, hsame⟩ := X15.leave (v := some (.int (1 : Int32))) (fun h => by rw [Bd.returns] at h; cases h)
 refine ⟨_, _, pre11 _ ?_, hrun, hended, _, _, rfl, ?_, ⟨_, rfl⟩, hW, hsame.mono (by decide) (by decide)⟩
 ·skip
  refine XS.dup X11.here hx rfl (hb hby at_376) rfl rfl ?_
  refine XS.aload X11.here hx rfl (hb hby at_377) rfl rfl ?_
  refine XS.aload X11.here hx rfl (hb hby at_379) rfl rfl ?_
  refine st13.trans ?_
  refine XS.astore X13.here hx rfl (hb hby at_384) rfl rfl (l' := (LA p1 p2 p3 p4 p5 (.val (.int (2 : Int32))) tu0 tu1 tu2 vu0 vu1 vu2 (.val (.ref ts3)) (.val (.ref vs3)) (.val (.ref ea1)) (.val (.int (2 : Int32))) (.val (.ref b8)) .unset)) rfl ?_
  refine st15 _ ?_
  refine XS.iconst X15.here hx rfl (hb hby at_481) ?_
  refine XS.goto X15.here hx rfl (pc0 := 482) (pc' := 486) rfl (hb hby at_482) (by decide) (by decide) ?_
  exact retN X15 hx (t := .boolean) Bd.returns (by simp) (hb hby at_486) hr
 ·show Q0 Z p1 p2 p3 p4 p5 tu0 tu1 tu2 vu0 vu1 vu2 aE kE aC kC lC i0 i1 i2 h0 n0 _ T15.heap _
  rw [e15]
  exact ⟨rfl, N15⟩
set_option maxRecDepth 65536 in
set_option maxHeartbeats 40000000 in
theorem rm0_3tt (l : Launch) (Z : State) (a0 : Array Value) (hw : HW a0 Z) (ws : List Jvm.Cond) (p1 : Int32) (p2 : Int32) (p3 : Int32) (p4 : Int32) (p5 : Int32) (tu0 : Int64) (tu1 : Int64) (tu2 : Int64) (vu0 : Int64) (vu1 : Int64) (vu2 : Int64) (aE : Addr) (kE : ClassId) (aC : Addr) (kC : ClassId) (lC : List Value) (i0 : Addr) (i1 : Addr) (i2 : Addr) (h0 : Heap) (n0 : Nat) (Z0 : n0 ≤ h0.size) (hn : (p1 &&& (3 : Int32)) = (3 : Int32)) (hp1 : ¬ (p3 &&& (3 : Int32)) = (0 : Int32)) (hp2 : ¬ (((p3.toUInt32 >>> ((2 : Int32) &&& 31).toUInt32).toInt32) &&& (3 : Int32)) = (0 : Int32)) (ps1 : tu0 < tu1) (ps2 : tu1 < tu2) (htu0 : tu0 = (((p2 &&& (1023 : Int32)) - (512 : Int32))).toInt64) (htu1 : tu1 = (tu0 + ((p3 &&& (3 : Int32))).toInt64)) (htu2 : tu2 = (tu1 + ((((p3.toUInt32 >>> ((2 : Int32) &&& 31).toUInt32).toInt32) &&& (3 : Int32))).toInt64)) (hvu0 : vu0 = ((p4 &&& (255 : Int32))).toInt64) (hvu1 : vu1 = (vu0 + ((p5 &&& (7 : Int32))).toInt64)) (hvu2 : vu2 = (vu1 + ((((p5.toUInt32 >>> ((3 : Int32) &&& 31).toUInt32).toInt32) &&& (7 : Int32))).toInt64)) (b_tu0 : B53 tu0) (b_tu1 : B53 tu1) (b_tu2 : B53 tu2) (b_vu0 : B53 vu0) (b_vu1 : B53 vu1) (b_vu2 : B53 vu2) (ov0 : ¬ vu0 < (0 : Int64)) (ot1 : ¬ tu1 < tu0) (ov1 : ¬ vu1 < vu0) (ot2 : ¬ tu2 < tu1) (ov2 : ¬ vu2 < vu1) (EN : EnvJ Z h0.size h0 aE kE aC kC lC i0 i1 i2) :
    MetFree l x (head1 (Jvm.Cond.code x code maxLocals ret :: ws) room_1) (fun ar UU => ar = #[(.int p1), (.int p2), (.int p3), (.int p4), (.int p5)] ∧ Z.Warmed39 UU.vm ∧ UU.heap = h0) (fun _ _ _ _ _ => True) (fun _ UU oo UU' => ∃ vv LL, oo = .returned vv ∧ Q0 Z p1 p2 p3 p4 p5 tu0 tu1 tu2 vu0 vu1 vu2 aE kE aC kC lC i0 i1 i2 h0 n0 vv UU'.heap LL ∧ FrameEnd UU oo UU' LL room_1.cells room_1.slots) := by
 refine MetFree.of_bodySF (plainFor_of_name pn_0) hisR ?_
 intro p e s m args below meth c s₁ Bd hml0 hP hK
 obtain ⟨rfl, hZ, hh⟩ := hP
 have hx := Bd.exec
 have hby := Bd.bytes
 have hml : c.maxLocals = 26 := hml0
 have hown : s.vm.findClass "com/example/narrow_bound/narrowbound/witness/CumulativeFunctionLevelsPinLaw" = some m.cls := findClass_of_methodNamed Bd.named
 have hnm := (name_of_methodNamed Bd.named Bd.method).1
 have X0 : Stand p l e room_1 s m #[(.int p1), (.int p2), (.int p3), (.int p4), (.int p5)] below meth c s₁ [] 0 0 := Stand.of_body Bd
 have e0 : s₁.heap = h0 := by rw [← hh, Bd.state]; rfl
 have N0 := Fr.nil n0
 have KC0 : Keep h0 h0 [] := Keep.refl h0 []
 have pre0 : ∀ tgt, Steps p.tables e below (s₁.setTop (mkF m 0 #[.val (.int p1), .val (.int p2), .val (.int p3), .val (.int p4), .val (.int p5), .unset, .unset, .unset, .unset, .unset, .unset, .unset, .unset, .unset, .unset, .unset, .unset, .unset, .unset, .unset, .unset, .unset, .unset, .unset, .unset, .unset] [])) tgt → Steps p.tables e below (s₁.setTop (entryFrame m #[(.int p1), (.int p2), (.int p3), (.int p4), (.int p5)] maxLocals)) tgt := fun tgt kk => castTop (ef0_IIIII m (p1) (p2) (p3) (p4) (p5)) kk
 have hkB := Nat.le_refl h0.size
 generalize hI : s₁.setTop (entryFrame m #[(.int p1), (.int p2), (.int p3), (.int p4), (.int p5)] maxLocals) = I0 at pre0 ⊢
 obtain ⟨T1, lo1, H1, ea1, ea_k1, X1, N1, e1, Zs1, KC1, P1_0, P1_1, o1_0, o1_1, st1⟩ := sP hw hx hby hml hZ hown hnm p1 p2 p3 p4 p5 tu0 tu1 tu2 vu0 vu1 vu2 (h0.size) aE kE aC kC lC i0 i1 i2 X0 N0 e0 Z0 KC0 htu0 htu1 htu2 hvu0 hvu1 hvu2 b_tu0 b_tu1 b_tu2 b_vu0 b_vu1 b_vu2 EN hkB
 have pre2 : Pr p e below I0 T1 (mkF m 83 (LA p1 p2 p3 p4 p5 (.val (.int (p1 &&& (3 : Int32)))) tu0 tu1 tu2 vu0 vu1 vu2 .unset .unset (.val (.ref ea1)) .unset .unset .unset) []) := by
  intro tg kk
  refine pre0 tg ?_
  refine st1 _ ?_
  exact kk
 rw [hn] at pre2
 obtain ⟨T14, lo14, Hc14, ts3, vs3, ts_k3, vs_k3, X14, N14, e14, Zs14, KC14, P3_0_c14, P3_2_c14, P3_3_c14, P3_4_c14, P3_5_c14, Vq11_c14, gnc14_1, gnc14_2, szc14_1, szc14_2, nesc14_0, nesc14_1, pre14⟩ : ∃ (T14 : State) (lo14 : List Loc) (Hc14 : Heap) (ts3 : Addr) (vs3 : Addr) (ts_k3 : ClassId) (vs_k3 : ClassId), Stand p l e room_1 s m #[(.int p1), (.int p2), (.int p3), (.int p4), (.int p5)] below meth c T14 lo14 3 12 ∧ Fr n0 lo14 ∧ T14.heap = Hc14 ∧ n0 ≤ Hc14.size ∧ Keep h0 Hc14 [] ∧ EnvJ Z h0.size Hc14 aE kE aC kC lC i0 i1 i2 ∧ Arv Z Hc14 ts3 ts_k3 .double (3 : Int32) [(dV tu0), (dV tu1), (dV tu2)] dZ ∧ Exa Z Hc14 ts3 "[D" ∧ Arv Z Hc14 vs3 vs_k3 .double (3 : Int32) [(dV vu0), (dV vu1), (dV vu2)] dZ ∧ Exa Z Hc14 vs3 "[D" ∧ Arv Z Hc14 ea1 ea_k1 .double (6 : Int32) [dZ, (dV vu0), (dV vu1), dZ, dZ, dZ] dZ ∧ n0 ≤ ts3 ∧ n0 ≤ vs3 ∧ h0.size ≤ ts3 ∧ h0.size ≤ vs3 ∧ ea1 ≠ ts3 ∧ ea1 ≠ vs3 ∧ Pr p e below I0 T14 (mkF m 355 (LA p1 p2 p3 p4 p5 (.val (.int (3 : Int32))) tu0 tu1 tu2 vu0 vu1 vu2 (.val (.ref ts3)) (.val (.ref vs3)) (.val (.ref ea1)) (.val (.int (6 : Int32))) .unset .unset) []) := by
  obtain ⟨T3, lo3, H3, ts3, ts_k3, vs3, vs_k3, X3, N3, e3, Zs3, KC3, P3_0, P3_1, P3_2, P3_3, P3_4, P3_5, o3_0, o3_1, o3_2, o3_3, o3_4, o3_5, st3⟩ := sM3 hw hx hby hml hZ hown hnm p1 p2 p3 p4 p5 tu0 tu1 tu2 vu0 vu1 vu2 ea1 ea_k1 (h0.size) aE kE aC kC lC i0 i1 i2 X1 N1 e1 Zs1 KC1 P1_1 P1_0 hkB
  have hk4 : ¬ ((p3 &&& (3 : Int32)) = (0 : Int32)) := hp1
  have hk5 : ¬ ((p3 &&& (3 : Int32)) = (0 : Int32)) := hp1
  have hk6 : ¬ ((((p3.toUInt32 >>> ((2 : Int32) &&& 31).toUInt32).toInt32) &&& (3 : Int32)) = (0 : Int32)) := hp2
  obtain ⟨cl7, Ar7, aq7, aS7, aN7, aH7, aG7⟩ := id P3_1
  have hin8 : ¬ ((1 : Int32) < 0 ∨ cl7.slots.size ≤ ((1 : Int32)).toNatClampNeg) := inb_of aS7 ⟨by decide, by decide⟩
  obtain ⟨T8, h8, X8, e8, W8, st8⟩ := stD X3 hx hZ e3 Ar7 (j := (1 : Int32)) hin8 (g := (mkF m 348 (LA p1 p2 p3 p4 p5 (.val (.int (3 : Int32))) tu0 tu1 tu2 vu0 vu1 vu2 (.val (.ref ts3)) (.val (.ref vs3)) (.val (.ref ea1)) (.val (.int (6 : Int32))) .unset .unset) [(dV vu0), (.int (1 : Int32)), (.ref ea1)])) rfl rfl (hb hby at_348)
  have N8 := Fr.snoc X8 N3 o1_0
  have Vq8 : Arv Z h8 ea1 ea_k1 .double (6 : Int32) [dZ, (dV vu0), dZ, dZ, dZ, dZ] dZ := Arv.set Ar7 aq7 aS7 aN7 aH7 aG7 rfl W8 1 rfl (Nat.le_of_ble_eq_true rfl)
  replace P3_0 := P3_0.wr W8 (Nat.le_trans hkB o1_1)
  replace P3_2 := P3_2.other W8 (Ne.symm o3_4)
  replace P3_3 := P3_3.wr W8
  replace P3_4 := P3_4.other W8 (Ne.symm o3_5)
  replace P3_5 := P3_5.wr W8
  have Zs9 := Nat.le_trans Zs3 (Keep.of_wr W8).1
  have KC9 := KC3.wr W8 (Or.inr o1_1)
  obtain ⟨cl10, Ar10, aq10, aS10, aN10, aH10, aG10⟩ := id Vq8
  have hin11 : ¬ ((2 : Int32) < 0 ∨ cl10.slots.size ≤ ((2 : Int32)).toNatClampNeg) := inb_of aS10 ⟨by decide, by decide⟩
  obtain ⟨T11, h11, X11, e11, W11, st11⟩ := stD X8 hx hZ e8 Ar10 (j := (2 : Int32)) hin11 (g := (mkF m 354 (LA p1 p2 p3 p4 p5 (.val (.int (3 : Int32))) tu0 tu1 tu2 vu0 vu1 vu2 (.val (.ref ts3)) (.val (.ref vs3)) (.val (.ref ea1)) (.val (.int (6 : Int32))) .unset .unset) [(dV vu1), (.int (2 : Int32)), (.ref ea1)])) rfl rfl (hb hby at_354)
  have N11 := Fr.snoc X11 N8 o1_0
  have Vq11 : Arv Z h11 ea1 ea_k1 .double (6 : Int32) [dZ, (dV vu0), (dV vu1), dZ, dZ, dZ] dZ := Arv.set Ar10 aq10 aS10 aN10 aH10 aG10 rfl W11 2 rfl (Nat.le_of_ble_eq_true rfl)
  replace P3_0 := P3_0.wr W11 (Nat.le_trans hkB o1_1)
  replace P3_2 := P3_2.other W11 (Ne.symm o3_4)
  replace P3_3 := P3_3.wr W11
  replace P3_4 := P3_4.other W11 (Ne.symm o3_5)
  replace P3_5 := P3_5.wr W11
  have Zs12 := Nat.le_trans Zs9 (Keep.of_wr W11).1
  have KC12 := KC9.wr W11 (Or.inr o1_1)
  have pre13 : Pr p e below I0 T11 (mkF m 355 (LA p1 p2 p3 p4 p5 (.val (.int (3 : Int32))) tu0 tu1 tu2 vu0 vu1 vu2 (.val (.ref ts3)) (.val (.ref vs3)) (.val (.ref ea1)) (.val (.int (6 : Int32))) .unset .unset) []) := by
   intro tg kk
   refine pre2 tg ?_
   refine st3 _ ?_
   refine XS.iload X3.here hx rfl (hb hby at_259) rfl ?_
   refine XS.ifYes X3.here hx rfl (pc0 := 261) (pc' := 281) rfl (hb hby at_261) rfl (XT.i0_ne_t hk4) (by decide) (by decide) ?_
   refine XS.iload X3.here hx rfl (hb hby at_281) rfl ?_
   refine XS.ifYes X3.here hx rfl (pc0 := 283) (pc' := 310) rfl (hb hby at_283) rfl (XT.i0_ne_t hk5) (by decide) (by decide) ?_
   refine XS.iload X3.here hx rfl (hb hby at_310) rfl ?_
   refine XS.ifYes X3.here hx rfl (pc0 := 312) (pc' := 339) rfl (hb hby at_312) rfl (XT.i0_ne_t hk6) (by decide) (by decide) ?_
   refine XS.bipush X3.here hx rfl (hb hby at_339) ?_
   refine XS.istore X3.here hx rfl (hb hby at_341) rfl (l' := (LA p1 p2 p3 p4 p5 (.val (.int (3 : Int32))) tu0 tu1 tu2 vu0 vu1 vu2 (.val (.ref ts3)) (.val (.ref vs3)) (.val (.ref ea1)) (.val (.int (6 : Int32))) .unset .unset)) rfl ?_
   refine XS.aload X3.here hx rfl (hb hby at_343) rfl rfl ?_
   refine XS.iconst X3.here hx rfl (hb hby at_345) ?_
   refine XS.dload X3.here hx rfl (hb hby at_346) rfl ?_
   refine st8 _ ?_
   refine XS.aload X8.here hx rfl (hb hby at_349) rfl rfl ?_
   refine XS.iconst X8.here hx rfl (hb hby at_351) ?_
   refine XS.dload X8.here hx rfl (hb hby at_352) rfl ?_
   refine st11 _ ?_
   exact kk
  exact ⟨T11, _, h11, ts3, vs3, ts_k3, vs_k3, X11, N11, e11, Zs12, KC12, P3_0, P3_2, P3_3, P3_4, P3_5, Vq11, o3_0, o3_2, o3_1, o3_3, o3_4, o3_5, pre13⟩
 clear pre2 X1 N1 e1 KC1 Zs1 P1_0 P1_1
 obtain ⟨T27, lo27, Hc27, b24, X27, N27, e27, Zs27, KC27, P3_0_c27, P3_2_c27, P3_3_c27, P3_4_c27, P3_5_c27, Vq22_c27, E_b24_c27, F_times_b24_c27, F_values_b24_c27, F_instants_b24_c27, F_lefts_b24_c27, F_rights_b24_c27, gnc27_3, szc27_3, nesc27_2, nesc27_3, nesc27_4, pre27⟩ : ∃ (T27 : State) (lo27 : List Loc) (Hc27 : Heap) (b24 : Addr), Stand p l e room_1 s m #[(.int p1), (.int p2), (.int p3), (.int p4), (.int p5)] below meth c T27 lo27 4 17 ∧ Fr n0 lo27 ∧ T27.heap = Hc27 ∧ n0 ≤ Hc27.size ∧ Keep h0 Hc27 [] ∧ EnvJ Z h0.size Hc27 aE kE aC kC lC i0 i1 i2 ∧ Arv Z Hc27 ts3 ts_k3 .double (3 : Int32) [(dV tu0), (dV tu1), (dV tu2)] dZ ∧ Exa Z Hc27 ts3 "[D" ∧ Arv Z Hc27 vs3 vs_k3 .double (3 : Int32) [(dV vu0), (dV vu1), (dV vu2)] dZ ∧ Exa Z Hc27 vs3 "[D" ∧ Arv Z Hc27 ea1 ea_k1 .double (6 : Int32) [dZ, (dV vu0), (dV vu1), (dV vu1), (dV vu2), (dV vu2)] dZ ∧ Exa Z Hc27 b24 cF ∧ Fld Z Hc27 b24 cF "times" "[D" .null ∧ Fld Z Hc27 b24 cF "values" "[D" .null ∧ Fld Z Hc27 b24 cF "instants" "[D" .null ∧ Fld Z Hc27 b24 cF "lefts" "[D" .null ∧ Fld Z Hc27 b24 cF "rights" "[D" .null ∧ n0 ≤ b24 ∧ h0.size ≤ b24 ∧ ts3 ≠ b24 ∧ vs3 ≠ b24 ∧ ea1 ≠ b24 ∧ Pr p e below I0 T27 (mkF m 376 (LA p1 p2 p3 p4 p5 (.val (.int (3 : Int32))) tu0 tu1 tu2 vu0 vu1 vu2 (.val (.ref ts3)) (.val (.ref vs3)) (.val (.ref ea1)) (.val (.int (6 : Int32))) .unset .unset) [(.ref b24)]) := by
  obtain ⟨cl15, Ar15, aq15, aS15, aN15, aH15, aG15⟩ := id Vq11_c14
  have hin16 : ¬ ((3 : Int32) < 0 ∨ cl15.slots.size ≤ ((3 : Int32)).toNatClampNeg) := inb_of aS15 ⟨by decide, by decide⟩
  obtain ⟨T16, h16, X16, e16, W16, st16⟩ := stD X14 hx hZ e14 Ar15 (j := (3 : Int32)) hin16 (g := (mkF m 360 (LA p1 p2 p3 p4 p5 (.val (.int (3 : Int32))) tu0 tu1 tu2 vu0 vu1 vu2 (.val (.ref ts3)) (.val (.ref vs3)) (.val (.ref ea1)) (.val (.int (6 : Int32))) .unset .unset) [(dV vu1), (.int (3 : Int32)), (.ref ea1)])) rfl rfl (hb hby at_360)
  have N16 := Fr.snoc X16 N14 o1_0
  have Vq16 : Arv Z h16 ea1 ea_k1 .double (6 : Int32) [dZ, (dV vu0), (dV vu1), (dV vu1), dZ, dZ] dZ := Arv.set Ar15 aq15 aS15 aN15 aH15 aG15 rfl W16 3 rfl (Nat.le_of_ble_eq_true rfl)
  replace P3_0_c14 := P3_0_c14.wr W16 (Nat.le_trans hkB o1_1)
  replace P3_2_c14 := P3_2_c14.other W16 (Ne.symm nesc14_0)
  replace P3_3_c14 := P3_3_c14.wr W16
  replace P3_4_c14 := P3_4_c14.other W16 (Ne.symm nesc14_1)
  replace P3_5_c14 := P3_5_c14.wr W16
  have Zs17 := Nat.le_trans Zs14 (Keep.of_wr W16).1
  have KC17 := KC14.wr W16 (Or.inr o1_1)
  obtain ⟨cl18, Ar18, aq18, aS18, aN18, aH18, aG18⟩ := id Vq16
  have hin19 : ¬ ((4 : Int32) < 0 ∨ cl18.slots.size ≤ ((4 : Int32)).toNatClampNeg) := inb_of aS18 ⟨by decide, by decide⟩
  obtain ⟨T19, h19, X19, e19, W19, st19⟩ := stD X16 hx hZ e16 Ar18 (j := (4 : Int32)) hin19 (g := (mkF m 366 (LA p1 p2 p3 p4 p5 (.val (.int (3 : Int32))) tu0 tu1 tu2 vu0 vu1 vu2 (.val (.ref ts3)) (.val (.ref vs3)) (.val (.ref ea1)) (.val (.int (6 : Int32))) .unset .unset) [(dV vu2), (.int (4 : Int32)), (.ref ea1)])) rfl rfl (hb hby at_366)
  have N19 := Fr.snoc X19 N16 o1_0
  have Vq19 : Arv Z h19 ea1 ea_k1 .double (6 : Int32) [dZ, (dV vu0), (dV vu1), (dV vu1), (dV vu2), dZ] dZ := Arv.set Ar18 aq18 aS18 aN18 aH18 aG18 rfl W19 4 rfl (Nat.le_of_ble_eq_true rfl)
  replace P3_0_c14 := P3_0_c14.wr W19 (Nat.le_trans hkB o1_1)
  replace P3_2_c14 := P3_2_c14.other W19 (Ne.symm nesc14_0)
  replace P3_3_c14 := P3_3_c14.wr W19
  replace P3_4_c14 := P3_4_c14.other W19 (Ne.symm nesc14_1)
  replace P3_5_c14 := P3_5_c14.wr W19
  have Zs20 := Nat.le_trans Zs17 (Keep.of_wr W19).1
  have KC20 := KC17.wr W19 (Or.inr o1_1)
  obtain ⟨cl21, Ar21, aq21, aS21, aN21, aH21, aG21⟩ := id Vq19
  have hin22 : ¬ ((5 : Int32) < 0 ∨ cl21.slots.size ≤ ((5 : Int32)).toNatClampNeg) := inb_of aS21 ⟨by decide, by decide⟩
  obtain ⟨T22, h22, X22, e22, W22, st22⟩ := stD X19 hx hZ e19 Ar21 (j := (5 : Int32)) hin22 (g := (mkF m 372 (LA p1 p2 p3 p4 p5 (.val (.int (3 : Int32))) tu0 tu1 tu2 vu0 vu1 vu2 (.val (.ref ts3)) (.val (.ref vs3)) (.val (.ref ea1)) (.val (.int (6 : Int32))) .unset .unset) [(dV vu2), (.int (5 : Int32)), (.ref ea1)])) rfl rfl (hb hby at_372)
  have N22 := Fr.snoc X22 N19 o1_0
  have Vq22 : Arv Z h22 ea1 ea_k1 .double (6 : Int32) [dZ, (dV vu0), (dV vu1), (dV vu1), (dV vu2), (dV vu2)] dZ := Arv.set Ar21 aq21 aS21 aN21 aH21 aG21 rfl W22 5 rfl (Nat.le_of_ble_eq_true rfl)
  replace P3_0_c14 := P3_0_c14.wr W22 (Nat.le_trans hkB o1_1)
  replace P3_2_c14 := P3_2_c14.other W22 (Ne.symm nesc14_0)
  replace P3_3_c14 := P3_3_c14.wr W22
  replace P3_4_c14 := P3_4_c14.other W22 (Ne.symm nesc14_1)
  replace P3_5_c14 := P3_5_c14.wr W22
  have Zs23 := Nat.le_trans Zs20 (Keep.of_wr W22).1
  have KC23 := KC20.wr W22 (Or.inr o1_1)
  obtain ⟨T24, h24, X24, e24, E24, A24, D24, -, st24⟩ := newO X22 hx hZ hown (tw1 hw) (tw2 hw) (tw3 hw) e22 (g := (mkF m 373 (LA p1 p2 p3 p4 p5 (.val (.int (3 : Int32))) tu0 tu1 tu2 vu0 vu1 vu2 (.val (.ref ts3)) (.val (.ref vs3)) (.val (.ref ea1)) (.val (.int (6 : Int32))) .unset .unset) [])) rfl (hb hby at_373) (by decide) (by decide)
  obtain ⟨b24, g24⟩ : ∃ z, z = h22.size := ⟨_, rfl⟩
  rw [← g24] at A24 D24 st24
  have ne_ts3_b24 := own_ne P3_2_c14.lt g24
  have ne_vs3_b24 := own_ne P3_4_c14.lt g24
  have ne_ea1_b24 := own_ne Vq22.lt g24
  have gn_b24 := own_le Zs23 g24
  have sz_b24 := own_le KC23.1 g24
  replace P3_0_c14 := P3_0_c14.ext E24
  replace P3_2_c14 := P3_2_c14.ext E24
  replace P3_3_c14 := P3_3_c14.ext E24
  replace P3_4_c14 := P3_4_c14.ext E24
  replace P3_5_c14 := P3_5_c14.ext E24
  replace Vq22 := Vq22.ext E24
  have Zs25 := Nat.le_trans Zs23 E24.1
  have KC25 := KC23.ext E24
  have E_b24 : Exa Z h24 b24 cF := A24
  have F_times_b24 : Fld Z h24 b24 cF "times" "[D" .null := D24 (Or.inr (tw20 hw)) (ty := (.array .double)) (by decide)
  have F_values_b24 : Fld Z h24 b24 cF "values" "[D" .null := D24 (Or.inr (tw22 hw)) (ty := (.array .double)) (by decide)
  have F_instants_b24 : Fld Z h24 b24 cF "instants" "[D" .null := D24 (Or.inr (tw59 hw)) (ty := (.array .double)) (by decide)
  have F_lefts_b24 : Fld Z h24 b24 cF "lefts" "[D" .null := D24 (Or.inr (tw61 hw)) (ty := (.array .double)) (by decide)
  have F_rights_b24 : Fld Z h24 b24 cF "rights" "[D" .null := D24 (Or.inr (tw63 hw)) (ty := (.array .double)) (by decide)
  have pre26 : Pr p e below I0 T24 (mkF m 376 (LA p1 p2 p3 p4 p5 (.val (.int (3 : Int32))) tu0 tu1 tu2 vu0 vu1 vu2 (.val (.ref ts3)) (.val (.ref vs3)) (.val (.ref ea1)) (.val (.int (6 : Int32))) .unset .unset) [(.ref b24)]) := by
   intro tg kk
   refine pre14 tg ?_
   refine XS.aload X14.here hx rfl (hb hby at_355) rfl rfl ?_
   refine XS.iconst X14.here hx rfl (hb hby at_357) ?_
   refine XS.dload X14.here hx rfl (hb hby at_358) rfl ?_
   refine st16 _ ?_
   refine XS.aload X16.here hx rfl (hb hby at_361) rfl rfl ?_
   refine XS.iconst X16.here hx rfl (hb hby at_363) ?_
   refine XS.dload X16.here hx rfl (hb hby at_364) rfl ?_
   refine st19 _ ?_
   refine XS.aload X19.here hx rfl (hb hby at_367) rfl rfl ?_
   refine XS.iconst X19.here hx rfl (hb hby at_369) ?_
   refine XS.dload X19.here hx rfl (hb hby at_370) rfl ?_
   refine st22 _ ?_
   refine st24 _ ?_
   exact kk
  exact ⟨T24, _, h24, b24, X24, N22, e24, Zs25, KC25, P3_0_c14, P3_2_c14, P3_3_c14, P3_4_c14, P3_5_c14, Vq22, E_b24, F_times_b24, F_values_b24, F_instants_b24, F_lefts_b24, F_rights_b24, gn_b24, sz_b24, ne_ts3_b24, ne_vs3_b24, ne_ea1_b24, pre26⟩
 clear pre14 X14 N14 e14 KC14 Zs14 P3_0_c14 P3_2_c14 P3_3_c14 P3_4_c14 P3_5_c14 Vq11_c14
 obtain ⟨_, _, ⟨T29, L29, k29, n29⟩, -, X29, ⟨Lc29, hQ29, l29, y29, z29⟩, st29⟩ := X27.specialBack hx (y := M18) rfl hown (mvT hZ (tw4 hw)) (mvT hZ (tw5 hw)) (mvT hZ (tw6 hw)) (by decide) (backOf (W := 1) (rmC3tt l Z a0 hw [] b24 ts3 ts_k3 vs3 vs_k3 (h0.size) aE kE aC kC lC i0 i1 i2 tu0 tu1 tu2 vu0 vu1 vu2 Hc27 n0 Zs27 E_b24_c27 F_times_b24_c27 F_values_b24_c27 F_instants_b24_c27 F_lefts_b24_c27 F_rights_b24_c27 P3_2_c27 P3_3_c27 P3_4_c27 P3_5_c27 P3_0_c27 (Nat.le_trans hkB KC27.1) (Nat.le_trans hkB szc27_3) gnc27_3 nesc27_2 nesc27_3 b_tu0 b_tu1 b_tu2 b_vu0 b_vu1 b_vu2 ov0 ot1 ov1 ps1 ot2 ov2 ps2) hZ (tw6 hw) (tw3 hw) (by decide) (by decide)) (g := (mkF m 381 (LA p1 p2 p3 p4 p5 (.val (.int (3 : Int32))) tu0 tu1 tu2 vu0 vu1 vu2 (.val (.ref ts3)) (.val (.ref vs3)) (.val (.ref ea1)) (.val (.int (6 : Int32))) .unset .unset) [(.ref vs3), (.ref ts3), (.ref b24), (.ref b24)])) rfl (by rw [hml]; rfl) (Steps.refl _) (a := b24) (argsL := [(.ref ts3), (.ref vs3)]) (rest := [(.ref b24)]) (lenOf pd___D_D_V rfl) rfl (own_mr rfl) (hb hby at_381) (fun _ _ => ⟨rfl, e27, (by decide : 4 + 7 ≤ _), (by decide : 17 + 28 ≤ _)⟩)
 dsimp only [Pt.U, Pt.locs, Pt.cells, Pt.slots] at X29 l29 y29 z29 st29 hQ29
 rw [l29, y29, z29] at X29
 obtain ⟨di29, di_k29, dl29, dl_k29, dr29, dr_k29, rfl, N29q, K29, gdi29, sdi29, gdl29, sdl29, gdr29, sdr29, P29_0, P29_1, P29_2, P29_3, P29_4, P29_5, P29_6⟩ := hQ29
 have N29 := Fr.app N27 N29q
 have pl35_b24 := own_plain_Exa E_b24_c27
 replace P3_0_c27 := P3_0_c27.keep K29 (allS (Nat.le_trans hkB szc27_3) all0) (allS pl35_b24 all0)
 replace P3_2_c27 := P3_2_c27.keep K29 (ninS nesc27_2 nin0)
 replace P3_3_c27 := P3_3_c27.keep K29
 replace P3_4_c27 := P3_4_c27.keep K29 (ninS nesc27_3 nin0)
 replace P3_5_c27 := P3_5_c27.keep K29
 replace Vq22_c27 := Vq22_c27.keep K29 (ninS nesc27_4 nin0)
 replace E_b24_c27 := E_b24_c27.keep K29
 have Zs30 := Nat.le_trans Zs27 K29.1
 have KC30 := KC27.trans K29 (allS (Or.inr szc27_3) all0)
 have szdi29 := Nat.le_trans KC27.1 sdi29
 have szdl29 := Nat.le_trans KC27.1 sdl29
 have szdr29 := Nat.le_trans KC27.1 sdr29
 obtain ⟨T31, lo31, H31, rb31, X31, N31, e31, Zs31, KC31, st31⟩ := sT3 hw hx hby hml hZ hown hnm p1 p2 p3 p4 p5 tu0 tu1 tu2 vu0 vu1 vu2 ((3 : Int32)) ts3 vs3 ea1 ea_k1 b24 di29 di_k29 dl29 dl_k29 dr29 dr_k29 tu0 tu1 tu2 vu1 vu2 vu0 vu1 vu2 (X29.more (by decide) (by decide)) N29 rfl Zs30 KC30 P29_0 P29_1 P29_2 P29_3 P29_4 P29_5 P29_6 Vq22_c27 b_vu1 b_vu2 b_vu0 b_vu1 b_vu2
 obtain ⟨fs, hr, hrun, hended, hW, hsame⟩ := X31.leave (v := some (.int (1 : Int32))) (fun h => by rw [Bd.returns] at h; cases h)
 refine ⟨_, _, pre27 _ ?_, hrun, hended, _, _, rfl, ?_, ⟨_, rfl⟩, hW, hsame.mono (by decide) (by decide)⟩
 ·skip
  refine XS.dup X27.here hx rfl (hb hby at_376) rfl rfl ?_
  refine XS.aload X27.here hx rfl (hb hby at_377) rfl rfl ?_
  refine XS.aload X27.here hx rfl (hb hby at_379) rfl rfl ?_
  refine st29.trans ?_
  refine XS.astore X29.here hx rfl (hb hby at_384) rfl rfl (l' := (LA p1 p2 p3 p4 p5 (.val (.int (3 : Int32))) tu0 tu1 tu2 vu0 vu1 vu2 (.val (.ref ts3)) (.val (.ref vs3)) (.val (.ref ea1)) (.val (.int (6 : Int32))) (.val (.ref b24)) .unset)) rfl ?_
  refine st31 _ ?_
  refine XS.iconst X31.here hx rfl (hb hby at_481) ?_
  refine XS.goto X31.here hx rfl (pc0 := 482) (pc' := 486) rfl (hb hby at_482) (by decide) (by decide) ?_
  exact retN X31 hx (t := .boolean) Bd.returns (by simp) (hb hby at_486) hr
 ·show Q0 Z p1 p2 p3 p4 p5 tu0 tu1 tu2 vu0 vu1 vu2 aE kE aC kC lC i0 i1 i2 h0 n0 _ T31.heap _
  rw [e31]
  exact ⟨rfl, N31⟩
set_option maxRecDepth 65536 in
set_option maxHeartbeats 40000000 in
theorem rm0_3tf (l : Launch) (Z : State) (a0 : Array Value) (hw : HW a0 Z) (ws : List Jvm.Cond) (p1 : Int32) (p2 : Int32) (p3 : Int32) (p4 : Int32) (p5 : Int32) (tu0 : Int64) (tu1 : Int64) (tu2 : Int64) (vu0 : Int64) (vu1 : Int64) (vu2 : Int64) (aE : Addr) (kE : ClassId) (aC : Addr) (kC : ClassId) (lC : List Value) (i0 : Addr) (i1 : Addr) (i2 : Addr) (h0 : Heap) (n0 : Nat) (Z0 : n0 ≤ h0.size) (hn : (p1 &&& (3 : Int32)) = (3 : Int32)) (hp1 : ¬ (p3 &&& (3 : Int32)) = (0 : Int32)) (hp2 : (((p3.toUInt32 >>> ((2 : Int32) &&& 31).toUInt32).toInt32) &&& (3 : Int32)) = (0 : Int32)) (ps1 : tu0 < tu1) (ps2 : ¬ tu1 < tu2) (htu0 : tu0 = (((p2 &&& (1023 : Int32)) - (512 : Int32))).toInt64) (htu1 : tu1 = (tu0 + ((p3 &&& (3 : Int32))).toInt64)) (htu2 : tu2 = (tu1 + ((((p3.toUInt32 >>> ((2 : Int32) &&& 31).toUInt32).toInt32) &&& (3 : Int32))).toInt64)) (hvu0 : vu0 = ((p4 &&& (255 : Int32))).toInt64) (hvu1 : vu1 = (vu0 + ((p5 &&& (7 : Int32))).toInt64)) (hvu2 : vu2 = (vu1 + ((((p5.toUInt32 >>> ((3 : Int32) &&& 31).toUInt32).toInt32) &&& (7 : Int32))).toInt64)) (b_tu0 : B53 tu0) (b_tu1 : B53 tu1) (b_tu2 : B53 tu2) (b_vu0 : B53 vu0) (b_vu1 : B53 vu1) (b_vu2 : B53 vu2) (ov0 : ¬ vu0 < (0 : Int64)) (ot1 : ¬ tu1 < tu0) (ov1 : ¬ vu1 < vu0) (ot2 : ¬ tu2 < tu1) (ov2 : ¬ vu2 < vu1) (EN : EnvJ Z h0.size h0 aE kE aC kC lC i0 i1 i2) :
    MetFree l x (head1 (Jvm.Cond.code x code maxLocals ret :: ws) room_1) (fun ar UU => ar = #[(.int p1), (.int p2), (.int p3), (.int p4), (.int p5)] ∧ Z.Warmed39 UU.vm ∧ UU.heap = h0) (fun _ _ _ _ _ => True) (fun _ UU oo UU' => ∃ vv LL, oo = .returned vv ∧ Q0 Z p1 p2 p3 p4 p5 tu0 tu1 tu2 vu0 vu1 vu2 aE kE aC kC lC i0 i1 i2 h0 n0 vv UU'.heap LL ∧ FrameEnd UU oo UU' LL room_1.cells room_1.slots) := by
 refine MetFree.of_bodySF (plainFor_of_name pn_0) hisR ?_
 intro p e s m args below meth c s₁ Bd hml0 hP hK
 obtain ⟨rfl, hZ, hh⟩ := hP
 have hx := Bd.exec
 have hby := Bd.bytes
 have hml : c.maxLocals = 26 := hml0
 have hown : s.vm.findClass "com/example/narrow_bound/narrowbound/witness/CumulativeFunctionLevelsPinLaw" = some m.cls := findClass_of_methodNamed Bd.named
 have hnm := (name_of_methodNamed Bd.named Bd.method).1
 have X0 : Stand p l e room_1 s m #[(.int p1), (.int p2), (.int p3), (.int p4), (.int p5)] below meth c s₁ [] 0 0 := Stand.of_body Bd
 have e0 : s₁.heap = h0 := by rw [← hh, Bd.state]; rfl
 have N0 := Fr.nil n0
 have KC0 : Keep h0 h0 [] := Keep.refl h0 []
 have pre0 : ∀ tgt, Steps p.tables e below (s₁.setTop (mkF m 0 #[.val (.int p1), .val (.int p2), .val (.int p3), .val (.int p4), .val (.int p5), .unset, .unset, .unset, .unset, .unset, .unset, .unset, .unset, .unset, .unset, .unset, .unset, .unset, .unset, .unset, .unset, .unset, .unset, .unset, .unset, .unset] [])) tgt → Steps p.tables e below (s₁.setTop (entryFrame m #[(.int p1), (.int p2), (.int p3), (.int p4), (.int p5)] maxLocals)) tgt := fun tgt kk => castTop (ef0_IIIII m (p1) (p2) (p3) (p4) (p5)) kk
 have hkB := Nat.le_refl h0.size
 generalize hI : s₁.setTop (entryFrame m #[(.int p1), (.int p2), (.int p3), (.int p4), (.int p5)] maxLocals) = I0 at pre0 ⊢
 obtain ⟨T1, lo1, H1, ea1, ea_k1, X1, N1, e1, Zs1, KC1, P1_0, P1_1, o1_0, o1_1, st1⟩ := sP hw hx hby hml hZ hown hnm p1 p2 p3 p4 p5 tu0 tu1 tu2 vu0 vu1 vu2 (h0.size) aE kE aC kC lC i0 i1 i2 X0 N0 e0 Z0 KC0 htu0 htu1 htu2 hvu0 hvu1 hvu2 b_tu0 b_tu1 b_tu2 b_vu0 b_vu1 b_vu2 EN hkB
 have pre2 : Pr p e below I0 T1 (mkF m 83 (LA p1 p2 p3 p4 p5 (.val (.int (p1 &&& (3 : Int32)))) tu0 tu1 tu2 vu0 vu1 vu2 .unset .unset (.val (.ref ea1)) .unset .unset .unset) []) := by
  intro tg kk
  refine pre0 tg ?_
  refine st1 _ ?_
  exact kk
 rw [hn] at pre2
 obtain ⟨T14, lo14, Hc14, ts3, vs3, ts_k3, vs_k3, X14, N14, e14, Zs14, KC14, P3_0_c14, P3_2_c14, P3_3_c14, P3_4_c14, P3_5_c14, Vq11_c14, gnc14_1, gnc14_2, szc14_1, szc14_2, nesc14_0, nesc14_1, pre14⟩ : ∃ (T14 : State) (lo14 : List Loc) (Hc14 : Heap) (ts3 : Addr) (vs3 : Addr) (ts_k3 : ClassId) (vs_k3 : ClassId), Stand p l e room_1 s m #[(.int p1), (.int p2), (.int p3), (.int p4), (.int p5)] below meth c T14 lo14 3 12 ∧ Fr n0 lo14 ∧ T14.heap = Hc14 ∧ n0 ≤ Hc14.size ∧ Keep h0 Hc14 [] ∧ EnvJ Z h0.size Hc14 aE kE aC kC lC i0 i1 i2 ∧ Arv Z Hc14 ts3 ts_k3 .double (3 : Int32) [(dV tu0), (dV tu1), (dV tu2)] dZ ∧ Exa Z Hc14 ts3 "[D" ∧ Arv Z Hc14 vs3 vs_k3 .double (3 : Int32) [(dV vu0), (dV vu1), (dV vu2)] dZ ∧ Exa Z Hc14 vs3 "[D" ∧ Arv Z Hc14 ea1 ea_k1 .double (6 : Int32) [dZ, (dV vu0), (dV vu1), dZ, dZ, dZ] dZ ∧ n0 ≤ ts3 ∧ n0 ≤ vs3 ∧ h0.size ≤ ts3 ∧ h0.size ≤ vs3 ∧ ea1 ≠ ts3 ∧ ea1 ≠ vs3 ∧ Pr p e below I0 T14 (mkF m 330 (LA p1 p2 p3 p4 p5 (.val (.int (3 : Int32))) tu0 tu1 tu2 vu0 vu1 vu2 (.val (.ref ts3)) (.val (.ref vs3)) (.val (.ref ea1)) (.val (.int (4 : Int32))) .unset .unset) []) := by
  obtain ⟨T3, lo3, H3, ts3, ts_k3, vs3, vs_k3, X3, N3, e3, Zs3, KC3, P3_0, P3_1, P3_2, P3_3, P3_4, P3_5, o3_0, o3_1, o3_2, o3_3, o3_4, o3_5, st3⟩ := sM3 hw hx hby hml hZ hown hnm p1 p2 p3 p4 p5 tu0 tu1 tu2 vu0 vu1 vu2 ea1 ea_k1 (h0.size) aE kE aC kC lC i0 i1 i2 X1 N1 e1 Zs1 KC1 P1_1 P1_0 hkB
  have hk4 : ¬ ((p3 &&& (3 : Int32)) = (0 : Int32)) := hp1
  have hk5 : ¬ ((p3 &&& (3 : Int32)) = (0 : Int32)) := hp1
  have hk6 : (((p3.toUInt32 >>> ((2 : Int32) &&& 31).toUInt32).toInt32) &&& (3 : Int32)) = (0 : Int32) := hp2
  obtain ⟨cl7, Ar7, aq7, aS7, aN7, aH7, aG7⟩ := id P3_1
  have hin8 : ¬ ((1 : Int32) < 0 ∨ cl7.slots.size ≤ ((1 : Int32)).toNatClampNeg) := inb_of aS7 ⟨by decide, by decide⟩
  obtain ⟨T8, h8, X8, e8, W8, st8⟩ := stD X3 hx hZ e3 Ar7 (j := (1 : Int32)) hin8 (g := (mkF m 323 (LA p1 p2 p3 p4 p5 (.val (.int (3 : Int32))) tu0 tu1 tu2 vu0 vu1 vu2 (.val (.ref ts3)) (.val (.ref vs3)) (.val (.ref ea1)) (.val (.int (4 : Int32))) .unset .unset) [(dV vu0), (.int (1 : Int32)), (.ref ea1)])) rfl rfl (hb hby at_323)
  have N8 := Fr.snoc X8 N3 o1_0
  have Vq8 : Arv Z h8 ea1 ea_k1 .double (6 : Int32) [dZ, (dV vu0), dZ, dZ, dZ, dZ] dZ := Arv.set Ar7 aq7 aS7 aN7 aH7 aG7 rfl W8 1 rfl (Nat.le_of_ble_eq_true rfl)
  replace P3_0 := P3_0.wr W8 (Nat.le_trans hkB o1_1)
  replace P3_2 := P3_2.other W8 (Ne.symm o3_4)
  replace P3_3 := P3_3.wr W8
  replace P3_4 := P3_4.other W8 (Ne.symm o3_5)
  replace P3_5 := P3_5.wr W8
  have Zs9 := Nat.le_trans Zs3 (Keep.of_wr W8).1
  have KC9 := KC3.wr W8 (Or.inr o1_1)
  obtain ⟨cl10, Ar10, aq10, aS10, aN10, aH10, aG10⟩ := id Vq8
  have hin11 : ¬ ((2 : Int32) < 0 ∨ cl10.slots.size ≤ ((2 : Int32)).toNatClampNeg) := inb_of aS10 ⟨by decide, by decide⟩
  obtain ⟨T11, h11, X11, e11, W11, st11⟩ := stD X8 hx hZ e8 Ar10 (j := (2 : Int32)) hin11 (g := (mkF m 329 (LA p1 p2 p3 p4 p5 (.val (.int (3 : Int32))) tu0 tu1 tu2 vu0 vu1 vu2 (.val (.ref ts3)) (.val (.ref vs3)) (.val (.ref ea1)) (.val (.int (4 : Int32))) .unset .unset) [(dV vu1), (.int (2 : Int32)), (.ref ea1)])) rfl rfl (hb hby at_329)
  have N11 := Fr.snoc X11 N8 o1_0
  have Vq11 : Arv Z h11 ea1 ea_k1 .double (6 : Int32) [dZ, (dV vu0), (dV vu1), dZ, dZ, dZ] dZ := Arv.set Ar10 aq10 aS10 aN10 aH10 aG10 rfl W11 2 rfl (Nat.le_of_ble_eq_true rfl)
  replace P3_0 := P3_0.wr W11 (Nat.le_trans hkB o1_1)
  replace P3_2 := P3_2.other W11 (Ne.symm o3_4)
  replace P3_3 := P3_3.wr W11
  replace P3_4 := P3_4.other W11 (Ne.symm o3_5)
  replace P3_5 := P3_5.wr W11
  have Zs12 := Nat.le_trans Zs9 (Keep.of_wr W11).1
  have KC12 := KC9.wr W11 (Or.inr o1_1)
  have pre13 : Pr p e below I0 T11 (mkF m 330 (LA p1 p2 p3 p4 p5 (.val (.int (3 : Int32))) tu0 tu1 tu2 vu0 vu1 vu2 (.val (.ref ts3)) (.val (.ref vs3)) (.val (.ref ea1)) (.val (.int (4 : Int32))) .unset .unset) []) := by
   intro tg kk
   refine pre2 tg ?_
   refine st3 _ ?_
   refine XS.iload X3.here hx rfl (hb hby at_259) rfl ?_
   refine XS.ifYes X3.here hx rfl (pc0 := 261) (pc' := 281) rfl (hb hby at_261) rfl (XT.i0_ne_t hk4) (by decide) (by decide) ?_
   refine XS.iload X3.here hx rfl (hb hby at_281) rfl ?_
   refine XS.ifYes X3.here hx rfl (pc0 := 283) (pc' := 310) rfl (hb hby at_283) rfl (XT.i0_ne_t hk5) (by decide) (by decide) ?_
   refine XS.iload X3.here hx rfl (hb hby at_310) rfl ?_
   refine XS.ifNo X3.here hx rfl (hb hby at_312) rfl (XT.i0_ne_f hk6) ?_
   refine XS.iconst X3.here hx rfl (hb hby at_315) ?_
   refine XS.istore X3.here hx rfl (hb hby at_316) rfl (l' := (LA p1 p2 p3 p4 p5 (.val (.int (3 : Int32))) tu0 tu1 tu2 vu0 vu1 vu2 (.val (.ref ts3)) (.val (.ref vs3)) (.val (.ref ea1)) (.val (.int (4 : Int32))) .unset .unset)) rfl ?_
   refine XS.aload X3.here hx rfl (hb hby at_318) rfl rfl ?_
   refine XS.iconst X3.here hx rfl (hb hby at_320) ?_
   refine XS.dload X3.here hx rfl (hb hby at_321) rfl ?_
   refine st8 _ ?_
   refine XS.aload X8.here hx rfl (hb hby at_324) rfl rfl ?_
   refine XS.iconst X8.here hx rfl (hb hby at_326) ?_
   refine XS.dload X8.here hx rfl (hb hby at_327) rfl ?_
   refine st11 _ ?_
   exact kk
  exact ⟨T11, _, h11, ts3, vs3, ts_k3, vs_k3, X11, N11, e11, Zs12, KC12, P3_0, P3_2, P3_3, P3_4, P3_5, Vq11, o3_0, o3_2, o3_1, o3_3, o3_4, o3_5, pre13⟩
 clear pre2 X1 N1 e1 KC1 Zs1 P1_0 P1_1
 obtain ⟨T25, lo25, Hc25, b18, rb23, X25, N25, e25, Zs25, KC25, gnc25_3, szc25_3, nesc25_2, nesc25_3, nesc25_4, pre25⟩ : ∃ (T25 : State) (lo25 : List Loc) (Hc25 : Heap) (b18 : Addr) (rb23 : Addr), Stand p l e room_1 s m #[(.int p1), (.int p2), (.int p3), (.int p4), (.int p5)] below meth c T25 lo25 21 124 ∧ Fr n0 lo25 ∧ T25.heap = Hc25 ∧ n0 ≤ Hc25.size ∧ Keep h0 Hc25 [] ∧ n0 ≤ b18 ∧ h0.size ≤ b18 ∧ ts3 ≠ b18 ∧ vs3 ≠ b18 ∧ ea1 ≠ b18 ∧ Pr p e below I0 T25 (mkF m 481 (LA p1 p2 p3 p4 p5 (.val (.int (3 : Int32))) tu0 tu1 tu2 vu0 vu1 vu2 (.val (.ref ts3)) (.val (.ref vs3)) (.val (.ref ea1)) (.val (.int (4 : Int32))) (.val (.ref b18)) (.val (.ref rb23))) []) := by
  obtain ⟨cl15, Ar15, aq15, aS15, aN15, aH15, aG15⟩ := id Vq11_c14
  have hin16 : ¬ ((3 : Int32) < 0 ∨ cl15.slots.size ≤ ((3 : Int32)).toNatClampNeg) := inb_of aS15 ⟨by decide, by decide⟩
  obtain ⟨T16, h16, X16, e16, W16, st16⟩ := stD X14 hx hZ e14 Ar15 (j := (3 : Int32)) hin16 (g := (mkF m 335 (LA p1 p2 p3 p4 p5 (.val (.int (3 : Int32))) tu0 tu1 tu2 vu0 vu1 vu2 (.val (.ref ts3)) (.val (.ref vs3)) (.val (.ref ea1)) (.val (.int (4 : Int32))) .unset .unset) [(dV vu2), (.int (3 : Int32)), (.ref ea1)])) rfl rfl (hb hby at_335)
  have N16 := Fr.snoc X16 N14 o1_0
  have Vq16 : Arv Z h16 ea1 ea_k1 .double (6 : Int32) [dZ, (dV vu0), (dV vu1), (dV vu2), dZ, dZ] dZ := Arv.set Ar15 aq15 aS15 aN15 aH15 aG15 rfl W16 3 rfl (Nat.le_of_ble_eq_true rfl)
  replace P3_0_c14 := P3_0_c14.wr W16 (Nat.le_trans hkB o1_1)
  replace P3_2_c14 := P3_2_c14.other W16 (Ne.symm nesc14_0)
  replace P3_3_c14 := P3_3_c14.wr W16
  replace P3_4_c14 := P3_4_c14.other W16 (Ne.symm nesc14_1)
  replace P3_5_c14 := P3_5_c14.wr W16
  have Zs17 := Nat.le_trans Zs14 (Keep.of_wr W16).1
  have KC17 := KC14.wr W16 (Or.inr o1_1)
  obtain ⟨T18, h18, X18, e18, E18, A18, D18, -, st18⟩ := newO X16 hx hZ hown (tw1 hw) (tw2 hw) (tw3 hw) e16 (g := (mkF m 373 (LA p1 p2 p3 p4 p5 (.val (.int (3 : Int32))) tu0 tu1 tu2 vu0 vu1 vu2 (.val (.ref ts3)) (.val (.ref vs3)) (.val (.ref ea1)) (.val (.int (4 : Int32))) .unset .unset) [])) rfl (hb hby at_373) (by decide) (by decide)
  obtain ⟨b18, g18⟩ : ∃ z, z = h16.size := ⟨_, rfl⟩
  rw [← g18] at A18 D18 st18
  have ne_ts3_b18 := own_ne P3_2_c14.lt g18
  have ne_vs3_b18 := own_ne P3_4_c14.lt g18
  have ne_ea1_b18 := own_ne Vq16.lt g18
  have gn_b18 := own_le Zs17 g18
  have sz_b18 := own_le KC17.1 g18
  replace P3_0_c14 := P3_0_c14.ext E18
  replace P3_2_c14 := P3_2_c14.ext E18
  replace P3_3_c14 := P3_3_c14.ext E18
  replace P3_4_c14 := P3_4_c14.ext E18
  replace P3_5_c14 := P3_5_c14.ext E18
  replace Vq16 := Vq16.ext E18
  have Zs19 := Nat.le_trans Zs17 E18.1
  have KC19 := KC17.ext E18
  have E_b18 : Exa Z h18 b18 cF := A18
  have F_times_b18 : Fld Z h18 b18 cF "times" "[D" .null := D18 (Or.inr (tw20 hw)) (ty := (.array .double)) (by decide)
  have F_values_b18 : Fld Z h18 b18 cF "values" "[D" .null := D18 (Or.inr (tw22 hw)) (ty := (.array .double)) (by decide)
  have F_instants_b18 : Fld Z h18 b18 cF "instants" "[D" .null := D18 (Or.inr (tw59 hw)) (ty := (.array .double)) (by decide)
  have F_lefts_b18 : Fld Z h18 b18 cF "lefts" "[D" .null := D18 (Or.inr (tw61 hw)) (ty := (.array .double)) (by decide)
  have F_rights_b18 : Fld Z h18 b18 cF "rights" "[D" .null := D18 (Or.inr (tw63 hw)) (ty := (.array .double)) (by decide)
  obtain ⟨_, _, ⟨T21, L21, k21, n21⟩, -, X21, ⟨Lc21, hQ21, l21, y21, z21⟩, st21⟩ := X18.specialBack hx (y := M18) rfl hown (mvT hZ (tw4 hw)) (mvT hZ (tw5 hw)) (mvT hZ (tw6 hw)) (by decide) (backOf (W := 1) (rmC3tf l Z a0 hw [] b18 ts3 ts_k3 vs3 vs_k3 (h0.size) aE kE aC kC lC i0 i1 i2 tu0 tu1 tu2 vu0 vu1 vu2 h18 n0 Zs19 E_b18 F_times_b18 F_values_b18 F_instants_b18 F_lefts_b18 F_rights_b18 P3_2_c14 P3_3_c14 P3_4_c14 P3_5_c14 P3_0_c14 (Nat.le_trans hkB KC19.1) (Nat.le_trans hkB sz_b18) gn_b18 ne_ts3_b18 ne_vs3_b18 b_tu0 b_tu1 b_tu2 b_vu0 b_vu1 b_vu2 ov0 ot1 ov1 ps1 ot2 ov2 ps2) hZ (tw6 hw) (tw3 hw) (by decide) (by decide)) (g := (mkF m 381 (LA p1 p2 p3 p4 p5 (.val (.int (3 : Int32))) tu0 tu1 tu2 vu0 vu1 vu2 (.val (.ref ts3)) (.val (.ref vs3)) (.val (.ref ea1)) (.val (.int (4 : Int32))) .unset .unset) [(.ref vs3), (.ref ts3), (.ref b18), (.ref b18)])) rfl (by rw [hml]; rfl) (Steps.refl _) (a := b18) (argsL := [(.ref ts3), (.ref vs3)]) (rest := [(.ref b18)]) (lenOf pd___D_D_V rfl) rfl (own_mr rfl) (hb hby at_381) (fun _ _ => ⟨rfl, e18, (by decide : 4 + 7 ≤ _), (by decide : 17 + 28 ≤ _)⟩)
  dsimp only [Pt.U, Pt.locs, Pt.cells, Pt.slots] at X21 l21 y21 z21 st21 hQ21
  rw [l21, y21, z21] at X21
  obtain ⟨di21, di_k21, dl21, dl_k21, dr21, dr_k21, rfl, N21q, K21, gdi21, sdi21, gdl21, sdl21, gdr21, sdr21, P21_0, P21_1, P21_2, P21_3, P21_4, P21_5, P21_6⟩ := hQ21
  have N21 := Fr.app N16 N21q
  have pl28_b18 := own_plain_Exa E_b18
  replace P3_0_c14 := P3_0_c14.keep K21 (allS (Nat.le_trans hkB sz_b18) all0) (allS pl28_b18 all0)
  replace P3_2_c14 := P3_2_c14.keep K21 (ninS ne_ts3_b18 nin0)
  replace P3_3_c14 := P3_3_c14.keep K21
  replace P3_4_c14 := P3_4_c14.keep K21 (ninS ne_vs3_b18 nin0)
  replace P3_5_c14 := P3_5_c14.keep K21
  replace Vq16 := Vq16.keep K21 (ninS ne_ea1_b18 nin0)
  replace E_b18 := E_b18.keep K21
  have Zs22 := Nat.le_trans Zs19 K21.1
  have KC22 := KC19.trans K21 (allS (Or.inr sz_b18) all0)
  have szdi21 := Nat.le_trans KC19.1 sdi21
  have szdl21 := Nat.le_trans KC19.1 sdl21
  have szdr21 := Nat.le_trans KC19.1 sdr21
  obtain ⟨T23, lo23, H23, rb23, X23, N23, e23, Zs23, KC23, st23⟩ := sT2 hw hx hby hml hZ hown hnm p1 p2 p3 p4 p5 tu0 tu1 tu2 vu0 vu1 vu2 ((3 : Int32)) ts3 vs3 ea1 ea_k1 b18 di21 di_k21 dl21 dl_k21 dr21 dr_k21 tu0 tu1 vu1 vu0 vu2 (X21.more (by decide) (by decide)) N21 rfl Zs22 KC22 P21_0 P21_1 P21_2 P21_3 P21_4 P21_5 P21_6 Vq16 b_vu1 b_vu0 b_vu2
  have pre24 : Pr p e below I0 T23 (mkF m 481 (LA p1 p2 p3 p4 p5 (.val (.int (3 : Int32))) tu0 tu1 tu2 vu0 vu1 vu2 (.val (.ref ts3)) (.val (.ref vs3)) (.val (.ref ea1)) (.val (.int (4 : Int32))) (.val (.ref b18)) (.val (.ref rb23))) []) := by
   intro tg kk
   refine pre14 tg ?_
   refine XS.aload X14.here hx rfl (hb hby at_330) rfl rfl ?_
   refine XS.iconst X14.here hx rfl (hb hby at_332) ?_
   refine XS.dload X14.here hx rfl (hb hby at_333) rfl ?_
   refine st16 _ ?_
   refine XS.goto X16.here hx rfl (pc0 := 336) (pc' := 373) rfl (hb hby at_336) (by decide) (by decide) ?_
   refine st18 _ ?_
   refine XS.dup X18.here hx rfl (hb hby at_376) rfl rfl ?_
   refine XS.aload X18.here hx rfl (hb hby at_377) rfl rfl ?_
   refine XS.aload X18.here hx rfl (hb hby at_379) rfl rfl ?_
   refine st21.trans ?_
   refine XS.astore X21.here hx rfl (hb hby at_384) rfl rfl (l' := (LA p1 p2 p3 p4 p5 (.val (.int (3 : Int32))) tu0 tu1 tu2 vu0 vu1 vu2 (.val (.ref ts3)) (.val (.ref vs3)) (.val (.ref ea1)) (.val (.int (4 : Int32))) (.val (.ref b18)) .unset)) rfl ?_
   refine st23 _ ?_
   exact kk
  exact ⟨T23, _, H23, b18, rb23, X23, N23, e23, Zs23, KC23, gn_b18, sz_b18, ne_ts3_b18, ne_vs3_b18, ne_ea1_b18, pre24⟩
 clear pre14 X14 N14 e14 KC14 Zs14 P3_0_c14 P3_2_c14 P3_3_c14 P3_4_c14 P3_5_c14 Vq11_c14
 obtain ⟨fs, hr, hrun, hended, hW, hsame⟩ := X25.leave (v := some (.int (1 : Int32))) (fun h => by rw [Bd.returns] at h; cases h)
 refine ⟨_, _, pre25 _ ?_, hrun, hended, _, _, rfl, ?_, ⟨_, rfl⟩, hW, hsame.mono (by decide) (by decide)⟩
 ·skip
  refine XS.iconst X25.here hx rfl (hb hby at_481) ?_
  refine XS.goto X25.here hx rfl (pc0 := 482) (pc' := 486) rfl (hb hby at_482) (by decide) (by decide) ?_
  exact retN X25 hx (t := .boolean) Bd.returns (by simp) (hb hby at_486) hr
 ·show Q0 Z p1 p2 p3 p4 p5 tu0 tu1 tu2 vu0 vu1 vu2 aE kE aC kC lC i0 i1 i2 h0 n0 _ T25.heap _
  rw [e25]
  exact ⟨rfl, N25⟩
set_option maxRecDepth 65536 in
set_option maxHeartbeats 40000000 in
theorem rm0_3ft (l : Launch) (Z : State) (a0 : Array Value) (hw : HW a0 Z) (ws : List Jvm.Cond) (p1 : Int32) (p2 : Int32) (p3 : Int32) (p4 : Int32) (p5 : Int32) (tu0 : Int64) (tu1 : Int64) (tu2 : Int64) (vu0 : Int64) (vu1 : Int64) (vu2 : Int64) (aE : Addr) (kE : ClassId) (aC : Addr) (kC : ClassId) (lC : List Value) (i0 : Addr) (i1 : Addr) (i2 : Addr) (h0 : Heap) (n0 : Nat) (Z0 : n0 ≤ h0.size) (hn : (p1 &&& (3 : Int32)) = (3 : Int32)) (hp1 : (p3 &&& (3 : Int32)) = (0 : Int32)) (hp2 : ¬ (((p3.toUInt32 >>> ((2 : Int32) &&& 31).toUInt32).toInt32) &&& (3 : Int32)) = (0 : Int32)) (ps1 : ¬ tu0 < tu1) (ps2 : tu1 < tu2) (htu0 : tu0 = (((p2 &&& (1023 : Int32)) - (512 : Int32))).toInt64) (htu1 : tu1 = (tu0 + ((p3 &&& (3 : Int32))).toInt64)) (htu2 : tu2 = (tu1 + ((((p3.toUInt32 >>> ((2 : Int32) &&& 31).toUInt32).toInt32) &&& (3 : Int32))).toInt64)) (hvu0 : vu0 = ((p4 &&& (255 : Int32))).toInt64) (hvu1 : vu1 = (vu0 + ((p5 &&& (7 : Int32))).toInt64)) (hvu2 : vu2 = (vu1 + ((((p5.toUInt32 >>> ((3 : Int32) &&& 31).toUInt32).toInt32) &&& (7 : Int32))).toInt64)) (b_tu0 : B53 tu0) (b_tu1 : B53 tu1) (b_tu2 : B53 tu2) (b_vu0 : B53 vu0) (b_vu1 : B53 vu1) (b_vu2 : B53 vu2) (ov0 : ¬ vu0 < (0 : Int64)) (ot1 : ¬ tu1 < tu0) (ov1 : ¬ vu1 < vu0) (ot2 : ¬ tu2 < tu1) (ov2 : ¬ vu2 < vu1) (EN : EnvJ Z h0.size h0 aE kE aC kC lC i0 i1 i2) :
    MetFree l x (head1 (Jvm.Cond.code x code maxLocals ret :: ws) room_1) (fun ar UU => ar = #[(.int p1), (.int p2), (.int p3), (.int p4), (.int p5)] ∧ Z.Warmed39 UU.vm ∧ UU.heap = h0) (fun _ _ _ _ _ => True) (fun _ UU oo UU' => ∃ vv LL, oo = .returned vv ∧ Q0 Z p1 p2 p3 p4 p5 tu0 tu1 tu2 vu0 vu1 vu2 aE kE aC kC lC i0 i1 i2 h0 n0 vv UU'.heap LL ∧ FrameEnd UU oo UU' LL room_1.cells room_1.slots) := by
 refine MetFree.of_bodySF (plainFor_of_name pn_0) hisR ?_
 intro p e s m args below meth c s₁ Bd hml0 hP hK
 obtain ⟨rfl, hZ, hh⟩ := hP
 have hx := Bd.exec
 have hby := Bd.bytes
 have hml : c.maxLocals = 26 := hml0
 have hown : s.vm.findClass "com/example/narrow_bound/narrowbound/witness/CumulativeFunctionLevelsPinLaw" = some m.cls := findClass_of_methodNamed Bd.named
 have hnm := (name_of_methodNamed Bd.named Bd.method).1
 have X0 : Stand p l e room_1 s m #[(.int p1), (.int p2), (.int p3), (.int p4), (.int p5)] below meth c s₁ [] 0 0 := Stand.of_body Bd
 have e0 : s₁.heap = h0 := by rw [← hh, Bd.state]; rfl
 have N0 := Fr.nil n0
 have KC0 : Keep h0 h0 [] := Keep.refl h0 []
 have pre0 : ∀ tgt, Steps p.tables e below (s₁.setTop (mkF m 0 #[.val (.int p1), .val (.int p2), .val (.int p3), .val (.int p4), .val (.int p5), .unset, .unset, .unset, .unset, .unset, .unset, .unset, .unset, .unset, .unset, .unset, .unset, .unset, .unset, .unset, .unset, .unset, .unset, .unset, .unset, .unset] [])) tgt → Steps p.tables e below (s₁.setTop (entryFrame m #[(.int p1), (.int p2), (.int p3), (.int p4), (.int p5)] maxLocals)) tgt := fun tgt kk => castTop (ef0_IIIII m (p1) (p2) (p3) (p4) (p5)) kk
 have hkB := Nat.le_refl h0.size
 generalize hI : s₁.setTop (entryFrame m #[(.int p1), (.int p2), (.int p3), (.int p4), (.int p5)] maxLocals) = I0 at pre0 ⊢
 obtain ⟨T1, lo1, H1, ea1, ea_k1, X1, N1, e1, Zs1, KC1, P1_0, P1_1, o1_0, o1_1, st1⟩ := sP hw hx hby hml hZ hown hnm p1 p2 p3 p4 p5 tu0 tu1 tu2 vu0 vu1 vu2 (h0.size) aE kE aC kC lC i0 i1 i2 X0 N0 e0 Z0 KC0 htu0 htu1 htu2 hvu0 hvu1 hvu2 b_tu0 b_tu1 b_tu2 b_vu0 b_vu1 b_vu2 EN hkB
 have pre2 : Pr p e below I0 T1 (mkF m 83 (LA p1 p2 p3 p4 p5 (.val (.int (p1 &&& (3 : Int32)))) tu0 tu1 tu2 vu0 vu1 vu2 .unset .unset (.val (.ref ea1)) .unset .unset .unset) []) := by
  intro tg kk
  refine pre0 tg ?_
  refine st1 _ ?_
  exact kk
 rw [hn] at pre2
 obtain ⟨T14, lo14, Hc14, ts3, vs3, ts_k3, vs_k3, X14, N14, e14, Zs14, KC14, P3_0_c14, P3_2_c14, P3_3_c14, P3_4_c14, P3_5_c14, Vq11_c14, gnc14_1, gnc14_2, szc14_1, szc14_2, nesc14_0, nesc14_1, pre14⟩ : ∃ (T14 : State) (lo14 : List Loc) (Hc14 : Heap) (ts3 : Addr) (vs3 : Addr) (ts_k3 : ClassId) (vs_k3 : ClassId), Stand p l e room_1 s m #[(.int p1), (.int p2), (.int p3), (.int p4), (.int p5)] below meth c T14 lo14 3 12 ∧ Fr n0 lo14 ∧ T14.heap = Hc14 ∧ n0 ≤ Hc14.size ∧ Keep h0 Hc14 [] ∧ EnvJ Z h0.size Hc14 aE kE aC kC lC i0 i1 i2 ∧ Arv Z Hc14 ts3 ts_k3 .double (3 : Int32) [(dV tu0), (dV tu1), (dV tu2)] dZ ∧ Exa Z Hc14 ts3 "[D" ∧ Arv Z Hc14 vs3 vs_k3 .double (3 : Int32) [(dV vu0), (dV vu1), (dV vu2)] dZ ∧ Exa Z Hc14 vs3 "[D" ∧ Arv Z Hc14 ea1 ea_k1 .double (6 : Int32) [dZ, (dV vu1), (dV vu2), dZ, dZ, dZ] dZ ∧ n0 ≤ ts3 ∧ n0 ≤ vs3 ∧ h0.size ≤ ts3 ∧ h0.size ≤ vs3 ∧ ea1 ≠ ts3 ∧ ea1 ≠ vs3 ∧ Pr p e below I0 T14 (mkF m 301 (LA p1 p2 p3 p4 p5 (.val (.int (3 : Int32))) tu0 tu1 tu2 vu0 vu1 vu2 (.val (.ref ts3)) (.val (.ref vs3)) (.val (.ref ea1)) (.val (.int (4 : Int32))) .unset .unset) []) := by
  obtain ⟨T3, lo3, H3, ts3, ts_k3, vs3, vs_k3, X3, N3, e3, Zs3, KC3, P3_0, P3_1, P3_2, P3_3, P3_4, P3_5, o3_0, o3_1, o3_2, o3_3, o3_4, o3_5, st3⟩ := sM3 hw hx hby hml hZ hown hnm p1 p2 p3 p4 p5 tu0 tu1 tu2 vu0 vu1 vu2 ea1 ea_k1 (h0.size) aE kE aC kC lC i0 i1 i2 X1 N1 e1 Zs1 KC1 P1_1 P1_0 hkB
  have hk4 : (p3 &&& (3 : Int32)) = (0 : Int32) := hp1
  have hk5 : ¬ ((((p3.toUInt32 >>> ((2 : Int32) &&& 31).toUInt32).toInt32) &&& (3 : Int32)) = (0 : Int32)) := hp2
  have hk6 : (p3 &&& (3 : Int32)) = (0 : Int32) := hp1
  obtain ⟨cl7, Ar7, aq7, aS7, aN7, aH7, aG7⟩ := id P3_1
  have hin8 : ¬ ((1 : Int32) < 0 ∨ cl7.slots.size ≤ ((1 : Int32)).toNatClampNeg) := inb_of aS7 ⟨by decide, by decide⟩
  obtain ⟨T8, h8, X8, e8, W8, st8⟩ := stD X3 hx hZ e3 Ar7 (j := (1 : Int32)) hin8 (g := (mkF m 294 (LA p1 p2 p3 p4 p5 (.val (.int (3 : Int32))) tu0 tu1 tu2 vu0 vu1 vu2 (.val (.ref ts3)) (.val (.ref vs3)) (.val (.ref ea1)) (.val (.int (4 : Int32))) .unset .unset) [(dV vu1), (.int (1 : Int32)), (.ref ea1)])) rfl rfl (hb hby at_294)
  have N8 := Fr.snoc X8 N3 o1_0
  have Vq8 : Arv Z h8 ea1 ea_k1 .double (6 : Int32) [dZ, (dV vu1), dZ, dZ, dZ, dZ] dZ := Arv.set Ar7 aq7 aS7 aN7 aH7 aG7 rfl W8 1 rfl (Nat.le_of_ble_eq_true rfl)
  replace P3_0 := P3_0.wr W8 (Nat.le_trans hkB o1_1)
  replace P3_2 := P3_2.other W8 (Ne.symm o3_4)
  replace P3_3 := P3_3.wr W8
  replace P3_4 := P3_4.other W8 (Ne.symm o3_5)
  replace P3_5 := P3_5.wr W8
  have Zs9 := Nat.le_trans Zs3 (Keep.of_wr W8).1
  have KC9 := KC3.wr W8 (Or.inr o1_1)
  obtain ⟨cl10, Ar10, aq10, aS10, aN10, aH10, aG10⟩ := id Vq8
  have hin11 : ¬ ((2 : Int32) < 0 ∨ cl10.slots.size ≤ ((2 : Int32)).toNatClampNeg) := inb_of aS10 ⟨by decide, by decide⟩
  obtain ⟨T11, h11, X11, e11, W11, st11⟩ := stD X8 hx hZ e8 Ar10 (j := (2 : Int32)) hin11 (g := (mkF m 300 (LA p1 p2 p3 p4 p5 (.val (.int (3 : Int32))) tu0 tu1 tu2 vu0 vu1 vu2 (.val (.ref ts3)) (.val (.ref vs3)) (.val (.ref ea1)) (.val (.int (4 : Int32))) .unset .unset) [(dV vu2), (.int (2 : Int32)), (.ref ea1)])) rfl rfl (hb hby at_300)
  have N11 := Fr.snoc X11 N8 o1_0
  have Vq11 : Arv Z h11 ea1 ea_k1 .double (6 : Int32) [dZ, (dV vu1), (dV vu2), dZ, dZ, dZ] dZ := Arv.set Ar10 aq10 aS10 aN10 aH10 aG10 rfl W11 2 rfl (Nat.le_of_ble_eq_true rfl)
  replace P3_0 := P3_0.wr W11 (Nat.le_trans hkB o1_1)
  replace P3_2 := P3_2.other W11 (Ne.symm o3_4)
  replace P3_3 := P3_3.wr W11
  replace P3_4 := P3_4.other W11 (Ne.symm o3_5)
  replace P3_5 := P3_5.wr W11
  have Zs12 := Nat.le_trans Zs9 (Keep.of_wr W11).1
  have KC12 := KC9.wr W11 (Or.inr o1_1)
  have pre13 : Pr p e below I0 T11 (mkF m 301 (LA p1 p2 p3 p4 p5 (.val (.int (3 : Int32))) tu0 tu1 tu2 vu0 vu1 vu2 (.val (.ref ts3)) (.val (.ref vs3)) (.val (.ref ea1)) (.val (.int (4 : Int32))) .unset .unset) []) := by
   intro tg kk
   refine pre2 tg ?_
   refine st3 _ ?_
   refine XS.iload X3.here hx rfl (hb hby at_259) rfl ?_
   refine XS.ifNo X3.here hx rfl (hb hby at_261) rfl (XT.i0_ne_f hk4) ?_
   refine XS.iload X3.here hx rfl (hb hby at_264) rfl ?_
   refine XS.ifYes X3.here hx rfl (pc0 := 266) (pc' := 281) rfl (hb hby at_266) rfl (XT.i0_ne_t hk5) (by decide) (by decide) ?_
   refine XS.iload X3.here hx rfl (hb hby at_281) rfl ?_
   refine XS.ifNo X3.here hx rfl (hb hby at_283) rfl (XT.i0_ne_f hk6) ?_
   refine XS.iconst X3.here hx rfl (hb hby at_286) ?_
   refine XS.istore X3.here hx rfl (hb hby at_287) rfl (l' := (LA p1 p2 p3 p4 p5 (.val (.int (3 : Int32))) tu0 tu1 tu2 vu0 vu1 vu2 (.val (.ref ts3)) (.val (.ref vs3)) (.val (.ref ea1)) (.val (.int (4 : Int32))) .unset .unset)) rfl ?_
   refine XS.aload X3.here hx rfl (hb hby at_289) rfl rfl ?_
   refine XS.iconst X3.here hx rfl (hb hby at_291) ?_
   refine XS.dload X3.here hx rfl (hb hby at_292) rfl ?_
   refine st8 _ ?_
   refine XS.aload X8.here hx rfl (hb hby at_295) rfl rfl ?_
   refine XS.iconst X8.here hx rfl (hb hby at_297) ?_
   refine XS.dload X8.here hx rfl (hb hby at_298) rfl ?_
   refine st11 _ ?_
   exact kk
  exact ⟨T11, _, h11, ts3, vs3, ts_k3, vs_k3, X11, N11, e11, Zs12, KC12, P3_0, P3_2, P3_3, P3_4, P3_5, Vq11, o3_0, o3_2, o3_1, o3_3, o3_4, o3_5, pre13⟩
 clear pre2 X1 N1 e1 KC1 Zs1 P1_0 P1_1
 obtain ⟨T25, lo25, Hc25, b18, rb23, X25, N25, e25, Zs25, KC25, gnc25_3, szc25_3, nesc25_2, nesc25_3, nesc25_4, pre25⟩ : ∃ (T25 : State) (lo25 : List Loc) (Hc25 : Heap) (b18 : Addr) (rb23 : Addr), Stand p l e room_1 s m #[(.int p1), (.int p2), (.int p3), (.int p4), (.int p5)] below meth c T25 lo25 21 124 ∧ Fr n0 lo25 ∧ T25.heap = Hc25 ∧ n0 ≤ Hc25.size ∧ Keep h0 Hc25 [] ∧ n0 ≤ b18 ∧ h0.size ≤ b18 ∧ ts3 ≠ b18 ∧ vs3 ≠ b18 ∧ ea1 ≠ b18 ∧ Pr p e below I0 T25 (mkF m 481 (LA p1 p2 p3 p4 p5 (.val (.int (3 : Int32))) tu0 tu1 tu2 vu0 vu1 vu2 (.val (.ref ts3)) (.val (.ref vs3)) (.val (.ref ea1)) (.val (.int (4 : Int32))) (.val (.ref b18)) (.val (.ref rb23))) []) := by
  obtain ⟨cl15, Ar15, aq15, aS15, aN15, aH15, aG15⟩ := id Vq11_c14
  have hin16 : ¬ ((3 : Int32) < 0 ∨ cl15.slots.size ≤ ((3 : Int32)).toNatClampNeg) := inb_of aS15 ⟨by decide, by decide⟩
  obtain ⟨T16, h16, X16, e16, W16, st16⟩ := stD X14 hx hZ e14 Ar15 (j := (3 : Int32)) hin16 (g := (mkF m 306 (LA p1 p2 p3 p4 p5 (.val (.int (3 : Int32))) tu0 tu1 tu2 vu0 vu1 vu2 (.val (.ref ts3)) (.val (.ref vs3)) (.val (.ref ea1)) (.val (.int (4 : Int32))) .unset .unset) [(dV vu2), (.int (3 : Int32)), (.ref ea1)])) rfl rfl (hb hby at_306)
  have N16 := Fr.snoc X16 N14 o1_0
  have Vq16 : Arv Z h16 ea1 ea_k1 .double (6 : Int32) [dZ, (dV vu1), (dV vu2), (dV vu2), dZ, dZ] dZ := Arv.set Ar15 aq15 aS15 aN15 aH15 aG15 rfl W16 3 rfl (Nat.le_of_ble_eq_true rfl)
  replace P3_0_c14 := P3_0_c14.wr W16 (Nat.le_trans hkB o1_1)
  replace P3_2_c14 := P3_2_c14.other W16 (Ne.symm nesc14_0)
  replace P3_3_c14 := P3_3_c14.wr W16
  replace P3_4_c14 := P3_4_c14.other W16 (Ne.symm nesc14_1)
  replace P3_5_c14 := P3_5_c14.wr W16
  have Zs17 := Nat.le_trans Zs14 (Keep.of_wr W16).1
  have KC17 := KC14.wr W16 (Or.inr o1_1)
  obtain ⟨T18, h18, X18, e18, E18, A18, D18, -, st18⟩ := newO X16 hx hZ hown (tw1 hw) (tw2 hw) (tw3 hw) e16 (g := (mkF m 373 (LA p1 p2 p3 p4 p5 (.val (.int (3 : Int32))) tu0 tu1 tu2 vu0 vu1 vu2 (.val (.ref ts3)) (.val (.ref vs3)) (.val (.ref ea1)) (.val (.int (4 : Int32))) .unset .unset) [])) rfl (hb hby at_373) (by decide) (by decide)
  obtain ⟨b18, g18⟩ : ∃ z, z = h16.size := ⟨_, rfl⟩
  rw [← g18] at A18 D18 st18
  have ne_ts3_b18 := own_ne P3_2_c14.lt g18
  have ne_vs3_b18 := own_ne P3_4_c14.lt g18
  have ne_ea1_b18 := own_ne Vq16.lt g18
  have gn_b18 := own_le Zs17 g18
  have sz_b18 := own_le KC17.1 g18
  replace P3_0_c14 := P3_0_c14.ext E18
  replace P3_2_c14 := P3_2_c14.ext E18
  replace P3_3_c14 := P3_3_c14.ext E18
  replace P3_4_c14 := P3_4_c14.ext E18
  replace P3_5_c14 := P3_5_c14.ext E18
  replace Vq16 := Vq16.ext E18
  have Zs19 := Nat.le_trans Zs17 E18.1
  have KC19 := KC17.ext E18
  have E_b18 : Exa Z h18 b18 cF := A18
  have F_times_b18 : Fld Z h18 b18 cF "times" "[D" .null := D18 (Or.inr (tw20 hw)) (ty := (.array .double)) (by decide)
  have F_values_b18 : Fld Z h18 b18 cF "values" "[D" .null := D18 (Or.inr (tw22 hw)) (ty := (.array .double)) (by decide)
  have F_instants_b18 : Fld Z h18 b18 cF "instants" "[D" .null := D18 (Or.inr (tw59 hw)) (ty := (.array .double)) (by decide)
  have F_lefts_b18 : Fld Z h18 b18 cF "lefts" "[D" .null := D18 (Or.inr (tw61 hw)) (ty := (.array .double)) (by decide)
  have F_rights_b18 : Fld Z h18 b18 cF "rights" "[D" .null := D18 (Or.inr (tw63 hw)) (ty := (.array .double)) (by decide)
  obtain ⟨_, _, ⟨T21, L21, k21, n21⟩, -, X21, ⟨Lc21, hQ21, l21, y21, z21⟩, st21⟩ := X18.specialBack hx (y := M18) rfl hown (mvT hZ (tw4 hw)) (mvT hZ (tw5 hw)) (mvT hZ (tw6 hw)) (by decide) (backOf (W := 1) (rmC3ft l Z a0 hw [] b18 ts3 ts_k3 vs3 vs_k3 (h0.size) aE kE aC kC lC i0 i1 i2 tu0 tu1 tu2 vu0 vu1 vu2 h18 n0 Zs19 E_b18 F_times_b18 F_values_b18 F_instants_b18 F_lefts_b18 F_rights_b18 P3_2_c14 P3_3_c14 P3_4_c14 P3_5_c14 P3_0_c14 (Nat.le_trans hkB KC19.1) (Nat.le_trans hkB sz_b18) gn_b18 ne_ts3_b18 ne_vs3_b18 b_tu0 b_tu1 b_tu2 b_vu0 b_vu1 b_vu2 ov0 ot1 ov1 ps1 ot2 ov2 ps2) hZ (tw6 hw) (tw3 hw) (by decide) (by decide)) (g := (mkF m 381 (LA p1 p2 p3 p4 p5 (.val (.int (3 : Int32))) tu0 tu1 tu2 vu0 vu1 vu2 (.val (.ref ts3)) (.val (.ref vs3)) (.val (.ref ea1)) (.val (.int (4 : Int32))) .unset .unset) [(.ref vs3), (.ref ts3), (.ref b18), (.ref b18)])) rfl (by rw [hml]; rfl) (Steps.refl _) (a := b18) (argsL := [(.ref ts3), (.ref vs3)]) (rest := [(.ref b18)]) (lenOf pd___D_D_V rfl) rfl (own_mr rfl) (hb hby at_381) (fun _ _ => ⟨rfl, e18, (by decide : 4 + 7 ≤ _), (by decide : 17 + 28 ≤ _)⟩)
  dsimp only [Pt.U, Pt.locs, Pt.cells, Pt.slots] at X21 l21 y21 z21 st21 hQ21
  rw [l21, y21, z21] at X21
  obtain ⟨di21, di_k21, dl21, dl_k21, dr21, dr_k21, rfl, N21q, K21, gdi21, sdi21, gdl21, sdl21, gdr21, sdr21, P21_0, P21_1, P21_2, P21_3, P21_4, P21_5, P21_6⟩ := hQ21
  have N21 := Fr.app N16 N21q
  have pl28_b18 := own_plain_Exa E_b18
  replace P3_0_c14 := P3_0_c14.keep K21 (allS (Nat.le_trans hkB sz_b18) all0) (allS pl28_b18 all0)
  replace P3_2_c14 := P3_2_c14.keep K21 (ninS ne_ts3_b18 nin0)
  replace P3_3_c14 := P3_3_c14.keep K21
  replace P3_4_c14 := P3_4_c14.keep K21 (ninS ne_vs3_b18 nin0)
  replace P3_5_c14 := P3_5_c14.keep K21
  replace Vq16 := Vq16.keep K21 (ninS ne_ea1_b18 nin0)
  replace E_b18 := E_b18.keep K21
  have Zs22 := Nat.le_trans Zs19 K21.1
  have KC22 := KC19.trans K21 (allS (Or.inr sz_b18) all0)
  have szdi21 := Nat.le_trans KC19.1 sdi21
  have szdl21 := Nat.le_trans KC19.1 sdl21
  have szdr21 := Nat.le_trans KC19.1 sdr21
  obtain ⟨T23, lo23, H23, rb23, X23, N23, e23, Zs23, KC23, st23⟩ := sT2 hw hx hby hml hZ hown hnm p1 p2 p3 p4 p5 tu0 tu1 tu2 vu0 vu1 vu2 ((3 : Int32)) ts3 vs3 ea1 ea_k1 b18 di21 di_k21 dl21 dl_k21 dr21 dr_k21 tu0 tu2 vu2 vu1 vu2 (X21.more (by decide) (by decide)) N21 rfl Zs22 KC22 P21_0 P21_1 P21_2 P21_3 P21_4 P21_5 P21_6 Vq16 b_vu2 b_vu1 b_vu2
  have pre24 : Pr p e below I0 T23 (mkF m 481 (LA p1 p2 p3 p4 p5 (.val (.int (3 : Int32))) tu0 tu1 tu2 vu0 vu1 vu2 (.val (.ref ts3)) (.val (.ref vs3)) (.val (.ref ea1)) (.val (.int (4 : Int32))) (.val (.ref b18)) (.val (.ref rb23))) []) := by
   intro tg kk
   refine pre14 tg ?_
   refine XS.aload X14.here hx rfl (hb hby at_301) rfl rfl ?_
   refine XS.iconst X14.here hx rfl (hb hby at_303) ?_
   refine XS.dload X14.here hx rfl (hb hby at_304) rfl ?_
   refine st16 _ ?_
   refine XS.goto X16.here hx rfl (pc0 := 307) (pc' := 373) rfl (hb hby at_307) (by decide) (by decide) ?_
   refine st18 _ ?_
   refine XS.dup X18.here hx rfl (hb hby at_376) rfl rfl ?_
   refine XS.aload X18.here hx rfl (hb hby at_377) rfl rfl ?_
   refine XS.aload X18.here hx rfl (hb hby at_379) rfl rfl ?_
   refine st21.trans ?_
   refine XS.astore X21.here hx rfl (hb hby at_384) rfl rfl (l' := (LA p1 p2 p3 p4 p5 (.val (.int (3 : Int32))) tu0 tu1 tu2 vu0 vu1 vu2 (.val (.ref ts3)) (.val (.ref vs3)) (.val (.ref ea1)) (.val (.int (4 : Int32))) (.val (.ref b18)) .unset)) rfl ?_
   refine st23 _ ?_
   exact kk
  exact ⟨T23, _, H23, b18, rb23, X23, N23, e23, Zs23, KC23, gn_b18, sz_b18, ne_ts3_b18, ne_vs3_b18, ne_ea1_b18, pre24⟩
 clear pre14 X14 N14 e14 KC14 Zs14 P3_0_c14 P3_2_c14 P3_3_c14 P3_4_c14 P3_5_c14 Vq11_c14
 obtain ⟨fs, hr, hrun, hended, hW, hsame⟩ := X25.leave (v := some (.int (1 : Int32))) (fun h => by rw [Bd.returns] at h; cases h)
 refine ⟨_, _, pre25 _ ?_, hrun, hended, _, _, rfl, ?_, ⟨_, rfl⟩, hW, hsame.mono (by decide) (by decide)⟩
 ·skip
  refine XS.iconst X25.here hx rfl (hb hby at_481) ?_
  refine XS.goto X25.here hx rfl (pc0 := 482) (pc' := 486) rfl (hb hby at_482) (by decide) (by decide) ?_
  exact retN X25 hx (t := .boolean) Bd.returns (by simp) (hb hby at_486) hr
 ·show Q0 Z p1 p2 p3 p4 p5 tu0 tu1 tu2 vu0 vu1 vu2 aE kE aC kC lC i0 i1 i2 h0 n0 _ T25.heap _
  rw [e25]
  exact ⟨rfl, N25⟩
set_option maxRecDepth 65536 in
set_option maxHeartbeats 40000000 in
theorem rm0_3ff (l : Launch) (Z : State) (a0 : Array Value) (hw : HW a0 Z) (ws : List Jvm.Cond) (p1 : Int32) (p2 : Int32) (p3 : Int32) (p4 : Int32) (p5 : Int32) (tu0 : Int64) (tu1 : Int64) (tu2 : Int64) (vu0 : Int64) (vu1 : Int64) (vu2 : Int64) (aE : Addr) (kE : ClassId) (aC : Addr) (kC : ClassId) (lC : List Value) (i0 : Addr) (i1 : Addr) (i2 : Addr) (h0 : Heap) (n0 : Nat) (Z0 : n0 ≤ h0.size) (hn : (p1 &&& (3 : Int32)) = (3 : Int32)) (hp1 : (p3 &&& (3 : Int32)) = (0 : Int32)) (hp2 : (((p3.toUInt32 >>> ((2 : Int32) &&& 31).toUInt32).toInt32) &&& (3 : Int32)) = (0 : Int32)) (ps1 : ¬ tu0 < tu1) (ps2 : ¬ tu1 < tu2) (htu0 : tu0 = (((p2 &&& (1023 : Int32)) - (512 : Int32))).toInt64) (htu1 : tu1 = (tu0 + ((p3 &&& (3 : Int32))).toInt64)) (htu2 : tu2 = (tu1 + ((((p3.toUInt32 >>> ((2 : Int32) &&& 31).toUInt32).toInt32) &&& (3 : Int32))).toInt64)) (hvu0 : vu0 = ((p4 &&& (255 : Int32))).toInt64) (hvu1 : vu1 = (vu0 + ((p5 &&& (7 : Int32))).toInt64)) (hvu2 : vu2 = (vu1 + ((((p5.toUInt32 >>> ((3 : Int32) &&& 31).toUInt32).toInt32) &&& (7 : Int32))).toInt64)) (b_tu0 : B53 tu0) (b_tu1 : B53 tu1) (b_tu2 : B53 tu2) (b_vu0 : B53 vu0) (b_vu1 : B53 vu1) (b_vu2 : B53 vu2) (ov0 : ¬ vu0 < (0 : Int64)) (ot1 : ¬ tu1 < tu0) (ov1 : ¬ vu1 < vu0) (ot2 : ¬ tu2 < tu1) (ov2 : ¬ vu2 < vu1) (EN : EnvJ Z h0.size h0 aE kE aC kC lC i0 i1 i2) :
    MetFree l x (head1 (Jvm.Cond.code x code maxLocals ret :: ws) room_1) (fun ar UU => ar = #[(.int p1), (.int p2), (.int p3), (.int p4), (.int p5)] ∧ Z.Warmed39 UU.vm ∧ UU.heap = h0) (fun _ _ _ _ _ => True) (fun _ UU oo UU' => ∃ vv LL, oo = .returned vv ∧ Q0 Z p1 p2 p3 p4 p5 tu0 tu1 tu2 vu0 vu1 vu2 aE kE aC kC lC i0 i1 i2 h0 n0 vv UU'.heap LL ∧ FrameEnd UU oo UU' LL room_1.cells room_1.slots) := by
 refine MetFree.of_bodySF (plainFor_of_name pn_0) hisR ?_
 intro p e s m args below meth c s₁ Bd hml0 hP hK
 obtain ⟨rfl, hZ, hh⟩ := hP
 have hx := Bd.exec
 have hby := Bd.bytes
 have hml : c.maxLocals = 26 := hml0
 have hown : s.vm.findClass "com/example/narrow_bound/narrowbound/witness/CumulativeFunctionLevelsPinLaw" = some m.cls := findClass_of_methodNamed Bd.named
 have hnm := (name_of_methodNamed Bd.named Bd.method).1
 have X0 : Stand p l e room_1 s m #[(.int p1), (.int p2), (.int p3), (.int p4), (.int p5)] below meth c s₁ [] 0 0 := Stand.of_body Bd
 have e0 : s₁.heap = h0 := by rw [← hh, Bd.state]; rfl
 have N0 := Fr.nil n0
 have KC0 : Keep h0 h0 [] := Keep.refl h0 []
 have pre0 : ∀ tgt, Steps p.tables e below (s₁.setTop (mkF m 0 #[.val (.int p1), .val (.int p2), .val (.int p3), .val (.int p4), .val (.int p5), .unset, .unset, .unset, .unset, .unset, .unset, .unset, .unset, .unset, .unset, .unset, .unset, .unset, .unset, .unset, .unset, .unset, .unset, .unset, .unset, .unset] [])) tgt → Steps p.tables e below (s₁.setTop (entryFrame m #[(.int p1), (.int p2), (.int p3), (.int p4), (.int p5)] maxLocals)) tgt := fun tgt kk => castTop (ef0_IIIII m (p1) (p2) (p3) (p4) (p5)) kk
 have hkB := Nat.le_refl h0.size
 generalize hI : s₁.setTop (entryFrame m #[(.int p1), (.int p2), (.int p3), (.int p4), (.int p5)] maxLocals) = I0 at pre0 ⊢
 obtain ⟨T1, lo1, H1, ea1, ea_k1, X1, N1, e1, Zs1, KC1, P1_0, P1_1, o1_0, o1_1, st1⟩ := sP hw hx hby hml hZ hown hnm p1 p2 p3 p4 p5 tu0 tu1 tu2 vu0 vu1 vu2 (h0.size) aE kE aC kC lC i0 i1 i2 X0 N0 e0 Z0 KC0 htu0 htu1 htu2 hvu0 hvu1 hvu2 b_tu0 b_tu1 b_tu2 b_vu0 b_vu1 b_vu2 EN hkB
 have pre2 : Pr p e below I0 T1 (mkF m 83 (LA p1 p2 p3 p4 p5 (.val (.int (p1 &&& (3 : Int32)))) tu0 tu1 tu2 vu0 vu1 vu2 .unset .unset (.val (.ref ea1)) .unset .unset .unset) []) := by
  intro tg kk
  refine pre0 tg ?_
  refine st1 _ ?_
  exact kk
 rw [hn] at pre2
 obtain ⟨T12, lo12, Hc12, b9, ts3, vs3, ts_k3, vs_k3, X12, N12, e12, Zs12, KC12, P3_0_c12, P3_2_c12, P3_3_c12, P3_4_c12, P3_5_c12, Vq7_c12, E_b9_c12, F_times_b9_c12, F_values_b9_c12, F_instants_b9_c12, F_lefts_b9_c12, F_rights_b9_c12, gnc12_1, gnc12_2, gnc12_3, szc12_1, szc12_2, szc12_3, nesc12_0, nesc12_1, nesc12_2, nesc12_3, nesc12_4, pre12⟩ : ∃ (T12 : State) (lo12 : List Loc) (Hc12 : Heap) (b9 : Addr) (ts3 : Addr) (vs3 : Addr) (ts_k3 : ClassId) (vs_k3 : ClassId), Stand p l e room_1 s m #[(.int p1), (.int p2), (.int p3), (.int p4), (.int p5)] below meth c T12 lo12 4 17 ∧ Fr n0 lo12 ∧ T12.heap = Hc12 ∧ n0 ≤ Hc12.size ∧ Keep h0 Hc12 [] ∧ EnvJ Z h0.size Hc12 aE kE aC kC lC i0 i1 i2 ∧ Arv Z Hc12 ts3 ts_k3 .double (3 : Int32) [(dV tu0), (dV tu1), (dV tu2)] dZ ∧ Exa Z Hc12 ts3 "[D" ∧ Arv Z Hc12 vs3 vs_k3 .double (3 : Int32) [(dV vu0), (dV vu1), (dV vu2)] dZ ∧ Exa Z Hc12 vs3 "[D" ∧ Arv Z Hc12 ea1 ea_k1 .double (6 : Int32) [dZ, (dV vu2), dZ, dZ, dZ, dZ] dZ ∧ Exa Z Hc12 b9 cF ∧ Fld Z Hc12 b9 cF "times" "[D" .null ∧ Fld Z Hc12 b9 cF "values" "[D" .null ∧ Fld Z Hc12 b9 cF "instants" "[D" .null ∧ Fld Z Hc12 b9 cF "lefts" "[D" .null ∧ Fld Z Hc12 b9 cF "rights" "[D" .null ∧ n0 ≤ ts3 ∧ n0 ≤ vs3 ∧ n0 ≤ b9 ∧ h0.size ≤ ts3 ∧ h0.size ≤ vs3 ∧ h0.size ≤ b9 ∧ ea1 ≠ ts3 ∧ ea1 ≠ vs3 ∧ ts3 ≠ b9 ∧ vs3 ≠ b9 ∧ ea1 ≠ b9 ∧ Pr p e below I0 T12 (mkF m 376 (LA p1 p2 p3 p4 p5 (.val (.int (3 : Int32))) tu0 tu1 tu2 vu0 vu1 vu2 (.val (.ref ts3)) (.val (.ref vs3)) (.val (.ref ea1)) (.val (.int (2 : Int32))) .unset .unset) [(.ref b9)]) := by
  obtain ⟨T3, lo3, H3, ts3, ts_k3, vs3, vs_k3, X3, N3, e3, Zs3, KC3, P3_0, P3_1, P3_2, P3_3, P3_4, P3_5, o3_0, o3_1, o3_2, o3_3, o3_4, o3_5, st3⟩ := sM3 hw hx hby hml hZ hown hnm p1 p2 p3 p4 p5 tu0 tu1 tu2 vu0 vu1 vu2 ea1 ea_k1 (h0.size) aE kE aC kC lC i0 i1 i2 X1 N1 e1 Zs1 KC1 P1_1 P1_0 hkB
  have hk4 : (p3 &&& (3 : Int32)) = (0 : Int32) := hp1
  have hk5 : (((p3.toUInt32 >>> ((2 : Int32) &&& 31).toUInt32).toInt32) &&& (3 : Int32)) = (0 : Int32) := hp2
  obtain ⟨cl6, Ar6, aq6, aS6, aN6, aH6, aG6⟩ := id P3_1
  have hin7 : ¬ ((1 : Int32) < 0 ∨ cl6.slots.size ≤ ((1 : Int32)).toNatClampNeg) := inb_of aS6 ⟨by decide, by decide⟩
  obtain ⟨T7, h7, X7, e7, W7, st7⟩ := stD X3 hx hZ e3 Ar6 (j := (1 : Int32)) hin7 (g := (mkF m 277 (LA p1 p2 p3 p4 p5 (.val (.int (3 : Int32))) tu0 tu1 tu2 vu0 vu1 vu2 (.val (.ref ts3)) (.val (.ref vs3)) (.val (.ref ea1)) (.val (.int (2 : Int32))) .unset .unset) [(dV vu2), (.int (1 : Int32)), (.ref ea1)])) rfl rfl (hb hby at_277)
  have N7 := Fr.snoc X7 N3 o1_0
  have Vq7 : Arv Z h7 ea1 ea_k1 .double (6 : Int32) [dZ, (dV vu2), dZ, dZ, dZ, dZ] dZ := Arv.set Ar6 aq6 aS6 aN6 aH6 aG6 rfl W7 1 rfl (Nat.le_of_ble_eq_true rfl)
  replace P3_0 := P3_0.wr W7 (Nat.le_trans hkB o1_1)
  replace P3_2 := P3_2.other W7 (Ne.symm o3_4)
  replace P3_3 := P3_3.wr W7
  replace P3_4 := P3_4.other W7 (Ne.symm o3_5)
  replace P3_5 := P3_5.wr W7
  have Zs8 := Nat.le_trans Zs3 (Keep.of_wr W7).1
  have KC8 := KC3.wr W7 (Or.inr o1_1)
  obtain ⟨T9, h9, X9, e9, E9, A9, D9, -, st9⟩ := newO X7 hx hZ hown (tw1 hw) (tw2 hw) (tw3 hw) e7 (g := (mkF m 373 (LA p1 p2 p3 p4 p5 (.val (.int (3 : Int32))) tu0 tu1 tu2 vu0 vu1 vu2 (.val (.ref ts3)) (.val (.ref vs3)) (.val (.ref ea1)) (.val (.int (2 : Int32))) .unset .unset) [])) rfl (hb hby at_373) (by decide) (by decide)
  obtain ⟨b9, g9⟩ : ∃ z, z = h7.size := ⟨_, rfl⟩
  rw [← g9] at A9 D9 st9
  have ne_ts3_b9 := own_ne P3_2.lt g9
  have ne_vs3_b9 := own_ne P3_4.lt g9
  have ne_ea1_b9 := own_ne Vq7.lt g9
  have gn_b9 := own_le Zs8 g9
  have sz_b9 := own_le KC8.1 g9
  replace P3_0 := P3_0.ext E9
  replace P3_2 := P3_2.ext E9
  replace P3_3 := P3_3.ext E9
  replace P3_4 := P3_4.ext E9
  replace P3_5 := P3_5.ext E9
  replace Vq7 := Vq7.ext E9
  have Zs10 := Nat.le_trans Zs8 E9.1
  have KC10 := KC8.ext E9
  have E_b9 : Exa Z h9 b9 cF := A9
  have F_times_b9 : Fld Z h9 b9 cF "times" "[D" .null := D9 (Or.inr (tw20 hw)) (ty := (.array .double)) (by decide)
  have F_values_b9 : Fld Z h9 b9 cF "values" "[D" .null := D9 (Or.inr (tw22 hw)) (ty := (.array .double)) (by decide)
  have F_instants_b9 : Fld Z h9 b9 cF "instants" "[D" .null := D9 (Or.inr (tw59 hw)) (ty := (.array .double)) (by decide)
  have F_lefts_b9 : Fld Z h9 b9 cF "lefts" "[D" .null := D9 (Or.inr (tw61 hw)) (ty := (.array .double)) (by decide)
  have F_rights_b9 : Fld Z h9 b9 cF "rights" "[D" .null := D9 (Or.inr (tw63 hw)) (ty := (.array .double)) (by decide)
  have pre11 : Pr p e below I0 T9 (mkF m 376 (LA p1 p2 p3 p4 p5 (.val (.int (3 : Int32))) tu0 tu1 tu2 vu0 vu1 vu2 (.val (.ref ts3)) (.val (.ref vs3)) (.val (.ref ea1)) (.val (.int (2 : Int32))) .unset .unset) [(.ref b9)]) := by
   intro tg kk
   refine pre2 tg ?_
   refine st3 _ ?_
   refine XS.iload X3.here hx rfl (hb hby at_259) rfl ?_
   refine XS.ifNo X3.here hx rfl (hb hby at_261) rfl (XT.i0_ne_f hk4) ?_
   refine XS.iload X3.here hx rfl (hb hby at_264) rfl ?_
   refine XS.ifNo X3.here hx rfl (hb hby at_266) rfl (XT.i0_ne_f hk5) ?_
   refine XS.iconst X3.here hx rfl (hb hby at_269) ?_
   refine XS.istore X3.here hx rfl (hb hby at_270) rfl (l' := (LA p1 p2 p3 p4 p5 (.val (.int (3 : Int32))) tu0 tu1 tu2 vu0 vu1 vu2 (.val (.ref ts3)) (.val (.ref vs3)) (.val (.ref ea1)) (.val (.int (2 : Int32))) .unset .unset)) rfl ?_
   refine XS.aload X3.here hx rfl (hb hby at_272) rfl rfl ?_
   refine XS.iconst X3.here hx rfl (hb hby at_274) ?_
   refine XS.dload X3.here hx rfl (hb hby at_275) rfl ?_
   refine st7 _ ?_
   refine XS.goto X7.here hx rfl (pc0 := 278) (pc' := 373) rfl (hb hby at_278) (by decide) (by decide) ?_
   refine st9 _ ?_
   exact kk
  exact ⟨T9, _, h9, b9, ts3, vs3, ts_k3, vs_k3, X9, N7, e9, Zs10, KC10, P3_0, P3_2, P3_3, P3_4, P3_5, Vq7, E_b9, F_times_b9, F_values_b9, F_instants_b9, F_lefts_b9, F_rights_b9, o3_0, o3_2, gn_b9, o3_1, o3_3, sz_b9, o3_4, o3_5, ne_ts3_b9, ne_vs3_b9, ne_ea1_b9, pre11⟩
 clear pre2 X1 N1 e1 KC1 Zs1 P1_0 P1_1
 obtain ⟨_, _, ⟨T14, L14, k14, n14⟩, -, X14, ⟨Lc14, hQ14, l14, y14, z14⟩, st14⟩ := X12.specialBack hx (y := M18) rfl hown (mvT hZ (tw4 hw)) (mvT hZ (tw5 hw)) (mvT hZ (tw6 hw)) (by decide) (backOf (W := 1) (rmC3ff l Z a0 hw [] b9 ts3 ts_k3 vs3 vs_k3 (h0.size) aE kE aC kC lC i0 i1 i2 tu0 tu1 tu2 vu0 vu1 vu2 Hc12 n0 Zs12 E_b9_c12 F_times_b9_c12 F_values_b9_c12 F_instants_b9_c12 F_lefts_b9_c12 F_rights_b9_c12 P3_2_c12 P3_3_c12 P3_4_c12 P3_5_c12 P3_0_c12 (Nat.le_trans hkB KC12.1) (Nat.le_trans hkB szc12_3) gnc12_3 nesc12_2 nesc12_3 b_tu0 b_tu1 b_tu2 b_vu0 b_vu1 b_vu2 ov0 ot1 ov1 ps1 ot2 ov2 ps2) hZ (tw6 hw) (tw3 hw) (by decide) (by decide)) (g := (mkF m 381 (LA p1 p2 p3 p4 p5 (.val (.int (3 : Int32))) tu0 tu1 tu2 vu0 vu1 vu2 (.val (.ref ts3)) (.val (.ref vs3)) (.val (.ref ea1)) (.val (.int (2 : Int32))) .unset .unset) [(.ref vs3), (.ref ts3), (.ref b9), (.ref b9)])) rfl (by rw [hml]; rfl) (Steps.refl _) (a := b9) (argsL := [(.ref ts3), (.ref vs3)]) (rest := [(.ref b9)]) (lenOf pd___D_D_V rfl) rfl (own_mr rfl) (hb hby at_381) (fun _ _ => ⟨rfl, e12, (by decide : 4 + 7 ≤ _), (by decide : 17 + 28 ≤ _)⟩)
 dsimp only [Pt.U, Pt.locs, Pt.cells, Pt.slots] at X14 l14 y14 z14 st14 hQ14
 rw [l14, y14, z14] at X14
 obtain ⟨di14, di_k14, dl14, dl_k14, dr14, dr_k14, rfl, N14q, K14, gdi14, sdi14, gdl14, sdl14, gdr14, sdr14, P14_0, P14_1, P14_2, P14_3, P14_4, P14_5, P14_6⟩ := hQ14
 have N14 := Fr.app N12 N14q
 have pl18_b9 := own_plain_Exa E_b9_c12
 replace P3_0_c12 := P3_0_c12.keep K14 (allS (Nat.le_trans hkB szc12_3) all0) (allS pl18_b9 all0)
 replace P3_2_c12 := P3_2_c12.keep K14 (ninS nesc12_2 nin0)
 replace P3_3_c12 := P3_3_c12.keep K14
 replace P3_4_c12 := P3_4_c12.keep K14 (ninS nesc12_3 nin0)
 replace P3_5_c12 := P3_5_c12.keep K14
 replace Vq7_c12 := Vq7_c12.keep K14 (ninS nesc12_4 nin0)
 replace E_b9_c12 := E_b9_c12.keep K14
 have Zs15 := Nat.le_trans Zs12 K14.1
 have KC15 := KC12.trans K14 (allS (Or.inr szc12_3) all0)
 have szdi14 := Nat.le_trans KC12.1 sdi14
 have szdl14 := Nat.le_trans KC12.1 sdl14
 have szdr14 := Nat.le_trans KC12.1 sdr14
 obtain ⟨T16, lo16, H16, rb16, X16, N16, e16, Zs16, KC16, st16⟩ := sT1 hw hx hby hml hZ hown hnm p1 p2 p3 p4 p5 tu0 tu1 tu2 vu0 vu1 vu2 ((3 : Int32)) ts3 vs3 ea1 ea_k1 b9 di14 di_k14 dl14 dl_k14 dr14 dr_k14 tu0 vu2 (X14.more (by decide) (by decide)) N14 rfl Zs15 KC15 P14_0 P14_1 P14_2 P14_3 P14_4 P14_5 P14_6 Vq7_c12 b_vu2
 obtain ⟨fs, hr, hrun, hended, hW, hsame⟩ := X16.leave (v := some (.int (1 : Int32))) (fun h => by rw [Bd.returns] at h; cases h)
 refine ⟨_, _, pre12 _ ?_, hrun, hended, _, _, rfl, ?_, ⟨_, rfl⟩, hW, hsame.mono (by decide) (by decide)⟩
 ·skip
  refine XS.dup X12.here hx rfl (hb hby at_376) rfl rfl ?_
  refine XS.aload X12.here hx rfl (hb hby at_377) rfl rfl ?_
  refine XS.aload X12.here hx rfl (hb hby at_379) rfl rfl ?_
  refine st14.trans ?_
  refine XS.astore X14.here hx rfl (hb hby at_384) rfl rfl (l' := (LA p1 p2 p3 p4 p5 (.val (.int (3 : Int32))) tu0 tu1 tu2 vu0 vu1 vu2 (.val (.ref ts3)) (.val (.ref vs3)) (.val (.ref ea1)) (.val (.int (2 : Int32))) (.val (.ref b9)) .unset)) rfl ?_
  refine st16 _ ?_
  refine XS.iconst X16.here hx rfl (hb hby at_481) ?_
  refine XS.goto X16.here hx rfl (pc0 := 482) (pc' := 486) rfl (hb hby at_482) (by decide) (by decide) ?_
  exact retN X16 hx (t := .boolean) Bd.returns (by simp) (hb hby at_486) hr
 ·show Q0 Z p1 p2 p3 p4 p5 tu0 tu1 tu2 vu0 vu1 vu2 aE kE aC kC lC i0 i1 i2 h0 n0 _ T16.heap _
  rw [e16]
  exact ⟨rfl, N16⟩
def Q0' (Z : State) (p1 : Int32) (p2 : Int32) (p3 : Int32) (p4 : Int32) (p5 : Int32) (aE : Addr) (kE : ClassId) (aC : Addr) (kC : ClassId) (lC : List Value) (i0 : Addr) (i1 : Addr) (i2 : Addr) (h0 : Heap) (n0 : Nat) (v : Option Value) (h : Heap) (L : List Loc) : Prop := v = some (.int (1 : Int32)) ∧ Fr n0 L
theorem rm0 (l : Launch) (Z : State) (a0 : Array Value) (hw : HW a0 Z) (ws : List Jvm.Cond) (p1 : Int32) (p2 : Int32) (p3 : Int32) (p4 : Int32) (p5 : Int32) (aE : Addr) (kE : ClassId) (aC : Addr) (kC : ClassId) (lC : List Value) (i0 : Addr) (i1 : Addr) (i2 : Addr) (h0 : Heap) (n0 : Nat) (Z0 : n0 ≤ h0.size) (EN : EnvJ Z h0.size h0 aE kE aC kC lC i0 i1 i2) :
    MetFree l x (head1 (Jvm.Cond.code x code maxLocals ret :: ws) room_1) (fun ar UU => ar = #[(.int p1), (.int p2), (.int p3), (.int p4), (.int p5)] ∧ Z.Warmed39 UU.vm ∧ UU.heap = h0) (fun _ _ _ _ _ => True) (fun _ UU oo UU' => ∃ vv LL, oo = .returned vv ∧ Q0' Z p1 p2 p3 p4 p5 aE kE aC kC lC i0 i1 i2 h0 n0 vv UU'.heap LL ∧ FrameEnd UU oo UU' LL room_1.cells room_1.slots) := by
  obtain ⟨tu0, htu0⟩ : ∃ z, z = (((p2 &&& (1023 : Int32)) - (512 : Int32))).toInt64 := ⟨_, rfl⟩
  have r_tu0 := own_r32 (((p2 &&& (1023 : Int32)) - (512 : Int32)))
  have b_tu0 := own_b32 (((p2 &&& (1023 : Int32)) - (512 : Int32)))
  rw [← htu0] at r_tu0 b_tu0
  obtain ⟨tu1, htu1⟩ : ∃ z, z = (tu0 + ((p3 &&& (3 : Int32))).toInt64) := ⟨_, rfl⟩
  have q_tu1 := own_step (A := tu0) (D := ((p3 &&& (3 : Int32)))) (n := 2147483648) r_tu0 (by decide) (own_m3 _)
  rw [← htu1] at q_tu1
  have r_tu1 := q_tu1.1
  have b_tu1 := q_tu1.2.2.2
  have ot1 := q_tu1.2.1
  obtain ⟨tu2, htu2⟩ : ∃ z, z = (tu1 + ((((p3.toUInt32 >>> ((2 : Int32) &&& 31).toUInt32).toInt32) &&& (3 : Int32))).toInt64) := ⟨_, rfl⟩
  have q_tu2 := own_step (A := tu1) (D := ((((p3.toUInt32 >>> ((2 : Int32) &&& 31).toUInt32).toInt32) &&& (3 : Int32)))) (n := 2147483648 + 7) r_tu1 (by decide) (own_m3 _)
  rw [← htu2] at q_tu2
  have r_tu2 := q_tu2.1
  have b_tu2 := q_tu2.2.2.2
  have ot2 := q_tu2.2.1
  obtain ⟨vu0, hvu0⟩ : ∃ z, z = ((p4 &&& (255 : Int32))).toInt64 := ⟨_, rfl⟩
  have r_vu0 := own_r32 ((p4 &&& (255 : Int32)))
  have b_vu0 := own_b32 ((p4 &&& (255 : Int32)))
  rw [← hvu0] at r_vu0 b_vu0
  have ov0 := own_v255 p4
  rw [← hvu0] at ov0
  obtain ⟨vu1, hvu1⟩ : ∃ z, z = (vu0 + ((p5 &&& (7 : Int32))).toInt64) := ⟨_, rfl⟩
  have q_vu1 := own_step (A := vu0) (D := ((p5 &&& (7 : Int32)))) (n := 2147483648) r_vu0 (by decide) (own_m7 _)
  rw [← hvu1] at q_vu1
  have r_vu1 := q_vu1.1
  have b_vu1 := q_vu1.2.2.2
  have ov1 := q_vu1.2.1
  obtain ⟨vu2, hvu2⟩ : ∃ z, z = (vu1 + ((((p5.toUInt32 >>> ((3 : Int32) &&& 31).toUInt32).toInt32) &&& (7 : Int32))).toInt64) := ⟨_, rfl⟩
  have q_vu2 := own_step (A := vu1) (D := ((((p5.toUInt32 >>> ((3 : Int32) &&& 31).toUInt32).toInt32) &&& (7 : Int32)))) (n := 2147483648 + 7) r_vu1 (by decide) (own_m7 _)
  rw [← hvu2] at q_vu2
  have r_vu2 := q_vu2.1
  have b_vu2 := q_vu2.2.2.2
  have ov2 := q_vu2.2.1
  rcases own_r4 p1 with hn | hn | hn | hn
  · exact rm0_0 l Z a0 hw ws p1 p2 p3 p4 p5 tu0 tu1 tu2 vu0 vu1 vu2 aE kE aC kC lC i0 i1 i2 h0 n0 Z0 hn htu0 htu1 htu2 hvu0 hvu1 hvu2 b_tu0 b_tu1 b_tu2 b_vu0 b_vu1 b_vu2 ov0 ot1 ov1 ot2 ov2 EN
  · exact rm0_1 l Z a0 hw ws p1 p2 p3 p4 p5 tu0 tu1 tu2 vu0 vu1 vu2 aE kE aC kC lC i0 i1 i2 h0 n0 Z0 hn htu0 htu1 htu2 hvu0 hvu1 hvu2 b_tu0 b_tu1 b_tu2 b_vu0 b_vu1 b_vu2 ov0 ot1 ov1 ot2 ov2 EN
  · by_cases hp1 : (p3 &&& (3 : Int32)) = (0 : Int32)
    · exact rm0_2f l Z a0 hw ws p1 p2 p3 p4 p5 tu0 tu1 tu2 vu0 vu1 vu2 aE kE aC kC lC i0 i1 i2 h0 n0 Z0 hn hp1 (fun z => q_tu1.2.2.1.mp z hp1) htu0 htu1 htu2 hvu0 hvu1 hvu2 b_tu0 b_tu1 b_tu2 b_vu0 b_vu1 b_vu2 ov0 ot1 ov1 ot2 ov2 EN
    · exact rm0_2t l Z a0 hw ws p1 p2 p3 p4 p5 tu0 tu1 tu2 vu0 vu1 vu2 aE kE aC kC lC i0 i1 i2 h0 n0 Z0 hn hp1 (q_tu1.2.2.1.mpr hp1) htu0 htu1 htu2 hvu0 hvu1 hvu2 b_tu0 b_tu1 b_tu2 b_vu0 b_vu1 b_vu2 ov0 ot1 ov1 ot2 ov2 EN
  · by_cases hp1 : (p3 &&& (3 : Int32)) = (0 : Int32)
    · by_cases hp2 : (((p3.toUInt32 >>> ((2 : Int32) &&& 31).toUInt32).toInt32) &&& (3 : Int32)) = (0 : Int32)
      · exact rm0_3ff l Z a0 hw ws p1 p2 p3 p4 p5 tu0 tu1 tu2 vu0 vu1 vu2 aE kE aC kC lC i0 i1 i2 h0 n0 Z0 hn hp1 hp2 (fun z => q_tu1.2.2.1.mp z hp1) (fun z => q_tu2.2.2.1.mp z hp2) htu0 htu1 htu2 hvu0 hvu1 hvu2 b_tu0 b_tu1 b_tu2 b_vu0 b_vu1 b_vu2 ov0 ot1 ov1 ot2 ov2 EN
      · exact rm0_3ft l Z a0 hw ws p1 p2 p3 p4 p5 tu0 tu1 tu2 vu0 vu1 vu2 aE kE aC kC lC i0 i1 i2 h0 n0 Z0 hn hp1 hp2 (fun z => q_tu1.2.2.1.mp z hp1) (q_tu2.2.2.1.mpr hp2) htu0 htu1 htu2 hvu0 hvu1 hvu2 b_tu0 b_tu1 b_tu2 b_vu0 b_vu1 b_vu2 ov0 ot1 ov1 ot2 ov2 EN
    · by_cases hp2 : (((p3.toUInt32 >>> ((2 : Int32) &&& 31).toUInt32).toInt32) &&& (3 : Int32)) = (0 : Int32)
      · exact rm0_3tf l Z a0 hw ws p1 p2 p3 p4 p5 tu0 tu1 tu2 vu0 vu1 vu2 aE kE aC kC lC i0 i1 i2 h0 n0 Z0 hn hp1 hp2 (q_tu1.2.2.1.mpr hp1) (fun z => q_tu2.2.2.1.mp z hp2) htu0 htu1 htu2 hvu0 hvu1 hvu2 b_tu0 b_tu1 b_tu2 b_vu0 b_vu1 b_vu2 ov0 ot1 ov1 ot2 ov2 EN
      · exact rm0_3tt l Z a0 hw ws p1 p2 p3 p4 p5 tu0 tu1 tu2 vu0 vu1 vu2 aE kE aC kC lC i0 i1 i2 h0 n0 Z0 hn hp1 hp2 (q_tu1.2.2.1.mpr hp1) (q_tu2.2.2.1.mpr hp2) htu0 htu1 htu2 hvu0 hvu1 hvu2 b_tu0 b_tu1 b_tu2 b_vu0 b_vu1 b_vu2 ov0 ot1 ov1 ot2 ov2 EN
set_option maxRecDepth 65536 in
set_option maxHeartbeats 40000000 in
theorem comes_1 {Post : Tables → Env → Array Value → State → Outcome → State → Prop} (hpost : ∀ tb e args s v u, (limb_1_1.after args s (.returned v) u = true ∧ limb_1_2.after args s (.returned v) u = true ∧ True) → FrameEnd s (.returned v) u (Jvm.fieldLocs frame_1_writes args s ++ Jvm.arrayLocs frame_1_arrays args s ++ Jvm.staticLocs frame_1_statics s) 32 192 → Post tb e args s (.returned v) u) :
    ArmFor flags0 classFile x code maxLocals ret World_1 tables_1 room_1 Calls_1 rest_1 Pre_1 Post := by
  intro l hfl _ _ p e ha hc hk s m args below hf hA hF happ hP
  obtain ⟨hcalls, hrest, hpre⟩ := hP
  obtain ⟨-, -, -, hnamed, -, -, -, hat⟩ := (Spec.applies_iff hf).mp happ
  obtain ⟨hg, hn⟩ := and_e (Cond.before_iff.mp (show (Jvm.Cond.and given_1 narrow_1).before args s = true from hpre))
  obtain ⟨hcount, g0⟩ := and_e hg
  obtain ⟨ga0, g1⟩ := and_e g0
  obtain ⟨ga1, g2⟩ := and_e g1
  obtain ⟨ga2, g3⟩ := and_e g2
  obtain ⟨ga3, g4⟩ := and_e g3
  have ga4 := g4
  obtain ⟨w0, w1, w2, w3, w4, rfl⟩ : ∃ w0 w1 w2 w3 w4 : Value, args = #[w0, w1, w2, w3, w4] := by
    have hs : args.size = 5 := by simpa [Cond.value, given_1] using hcount
    obtain ⟨L⟩ := args
    match L, hs with
    | [w0, w1, w2, w3, w4], _ => exact ⟨w0, w1, w2, w3, w4, rfl⟩
  have hw := fun d (hd : d ∈ tables_1) => atoms_spec (ws := Jvm.Cond.code x code maxLocals ret :: tables_1) hat d (List.mem_cons_of_mem _ hd)
  have hfit : Fit s := fun {y c} hc i hi => by
    obtain ⟨ha, rfl⟩ := Array.getElem?_eq_some_iff.mp hc
    have q := List.all_eq_true.mp ((Array.all_eq_true_iff_forall_mem.mp hF) _ (Array.getElem_mem ha)) i (List.mem_range.mpr hi)
    simpa [Array.getElem?_eq_getElem hi] using q
  obtain ⟨i0, ei0⟩ := is_v ga0
  obtain rfl : w0 = (.int i0) := Option.some.inj ei0
  obtain ⟨i1, ei1⟩ := is_v ga1
  obtain rfl : w1 = (.int i1) := Option.some.inj ei1
  obtain ⟨i2, ei2⟩ := is_v ga2
  obtain rfl : w2 = (.int i2) := Option.some.inj ei2
  obtain ⟨i3, ei3⟩ := is_v ga3
  obtain rfl : w3 = (.int i3) := Option.some.inj ei3
  obtain ⟨i4, ei4⟩ := is_v ga4
  obtain rfl : w4 = (.int i4) := Option.some.inj ei4
  obtain ⟨hsets, hown0⟩ := atoms_of _ (rest_1_c_eq ▸ (show rest_1_c.before _ s = true from hrest))
  have k6 := Cond.before_iff.mp (hsets _ (List.mem_of_getElem? (i := 6) rfl))
  have k8 := Cond.before_iff.mp (hsets _ (List.mem_of_getElem? (i := 8) rfl))
  have k12 := Cond.before_iff.mp (hsets _ (List.mem_of_getElem? (i := 12) rfl))
  have k13 := Cond.before_iff.mp (hsets _ (List.mem_of_getElem? (i := 13) rfl))
  have k15 := Cond.before_iff.mp (hsets _ (List.mem_of_getElem? (i := 15) rfl))
  have k16 := Cond.before_iff.mp (hsets _ (List.mem_of_getElem? (i := 16) rfl))
  obtain ⟨aE, evE⟩ := arr_v k6
  obtain ⟨cE, ArE⟩ := Arr.start evE k6
  have hlE := own_len evE ArE (own_eqI k8)
  have S_D : Sta s s.heap "java/util/ArrayList" "DEFAULTCAPACITY_EMPTY_ELEMENTDATA" "[Ljava/lang/Object;" (.ref aE) := Sta.start evE (Or.inr ⟨(tw25 hw), (hsets _ (List.mem_of_getElem? (i := 2) rfl))⟩)
  have V_E : Arv s s.heap aE cE.cls (.object "java/lang/Object") (0 : Int32) [] .null := Arv.start hfit ArE hlE.1 hlE.2 (by decide) rfl trivial
  have S_H : Sta s s.heap "java/lang/Integer$IntegerCache" "high" "I" (.int (127 : Int32)) := Sta.start (own_eqI k12) (Or.inl (hsets _ (List.mem_of_getElem? (i := 10) rfl)))
  obtain ⟨aC, evC⟩ := arr_v k13
  obtain ⟨cC, ArC⟩ := Arr.start evC k13
  have hlC := own_len evC ArC (own_eqI k15)
  have hsz : cC.slots.size = 256 := own_size hlC.1 hlC.2 rfl
  have S_C : Sta s s.heap "java/lang/Integer$IntegerCache" "cache" "[Ljava/lang/Integer;" (.ref aC) := Sta.start evC (Or.inr ⟨(tw87 hw), (hsets _ (List.mem_of_getElem? (i := 11) rfl))⟩)
  have V_C : Arv s s.heap aC cC.cls (.object "java/lang/Integer") (256 : Int32) cC.slots.toList .null := own_arvL hfit ArC hsz
  obtain ⟨r0, hat0, E_r0, F_r0⟩ := own_cache evC ArC hsz k16 (j := (128 : Int32)) (k := (0 : Int32)) (by decide) (by decide)
  obtain ⟨r1, hat1, E_r1, F_r1⟩ := own_cache evC ArC hsz k16 (j := (129 : Int32)) (k := (1 : Int32)) (by decide) (by decide)
  obtain ⟨r2, hat2, E_r2, F_r2⟩ := own_cache evC ArC hsz k16 (j := (130 : Int32)) (k := (2 : Int32)) (by decide) (by decide)
  have EN : EnvJ s s.heap.size s.heap aE cE.cls aC cC.cls cC.slots.toList r0 r1 r2 := ⟨⟨S_D, S_H, S_C⟩, ⟨V_E, V_C⟩, ⟨E_r0, E_r1, E_r2⟩, ⟨F_r0, F_r1, F_r2⟩, ⟨hat0, hat1, hat2⟩, V_E.lt, V_C.lt, E_r0.lt, E_r1.lt, E_r2.lt⟩
  obtain ⟨n, o, h1, h2, h3, _, L, rfl, ⟨rfl, N⟩, hq⟩ := rm0 l s _ hw tables_1 i0 i1 i2 i3 i4 aE cE.cls aC cC.cls cC.slots.toList r0 r1 r2 s.heap s.heap.size (Nat.le_refl _) EN p e ha hc hk s m _ below hf ((Spec.applies_iff_loose hf).mp happ).1 ⟨rfl, State.Warmed39.refl s, rfl⟩ trivial
  refine ⟨n, _, h1, h2, h3, hpost _ _ _ _ _ _ ⟨Cond.after_iff.mpr rfl, Cond.after_iff.mpr (eq_i res_at (Term.int_eval (1)) rfl), trivial⟩ ⟨hq.1, hq.2.1, (hq.2.2.sift fun y hy => Or.inr (N y hy)).mono (by decide) (by decide)⟩⟩
theorem main_1_1 : Claimed_1_1 := comes_1 fun _ _ _ _ _ _ h hF => ⟨h.1, hF⟩
theorem main_1_2 : Claimed_1_2 := comes_1 fun _ _ _ _ _ _ h hF => ⟨h.2.1, hF⟩
end Jvm.Pilot.@@N@@
namespace Jvm.Pilot.@@N@@
open Jvm Jvm.ClassFile Sem Op Lib Jvm.Free Jvm.Stand Jvm.Pilot.@@N@@.Jvm.D
/-! MADE BY PROGRAM (witnessworld.py) out of the Statement's table words and the real class files: 31 classes; the members and pool entries that the words name. The judged class is class 1, her method 1. -/
namespace start1
open Jvm.ClassFile
def u (s : String) : CpInfo := .utf8 (stringToUtf16 s)
/-- a pool by its gaps: so many unusable entries, then the entry; so many at the end -/
def gap : Nat → List CpInfo → List CpInfo
  | 0, r => r
  | n + 1, r => .unusable :: gap n r
def poolList (es : List (Nat × CpInfo)) (last : Nat) : List CpInfo := es.foldr (fun e r => gap e.1 (e.2 :: r)) (gap last [])
def pool (es : List (Nat × CpInfo)) (last : Nat) : Array CpInfo := ⟨poolList es last⟩
def fileOf (pool : Array CpInfo) (this : Nat) (attrs : Array Attribute := #[]) (ms : Array MethodInfo := #[]) (fl : Nat := 33) (sup : Nat := 0) (ifs : Array Nat := #[]) (fds : Array FieldInfo := #[]) : ClassFile where
  minorVersion := 0
  majorVersion := 65
  constantPool := pool
  accessFlags := fl
  thisClass := this
  superClass := sup
  interfaces := ifs
  fields := fds
  methods := ms
  attributes := attrs
def plain (name : String) (sup : Option ClassId) : Class where
  name := name
  kind := .ordinary
  loader := none
  accessFlags := 33
  super := sup
  interfaces := #[]
  cf := none
  fields := #[]
  methods := #[]
  instanceTypes := #[]
  staticTypes := #[]
  resolved := #[]
  callSites := []
  init := .initialized
  statics := none
  mirror := none

def pool0 : Array CpInfo := pool [(5, u "<init>"), (0, u "()V"), (1, .class_ 10), (1, u "java/lang/Object"), (85, u "clone"), (0, u "()Ljava/lang/Object;")] 26

def k0c0 : Code := { maxStack := 0, maxLocals := 1, code := object_method_1_code, exceptionTable := #[], attributes := #[] }
def k0m0 : Method := { name := "<init>", desc := "()V", sig := { parameters := [], returnType := none }, accessFlags := 1, code := some k0c0 }
def k0m1 : Method := { name := "clone", desc := "()Ljava/lang/Object;", sig := { parameters := [], returnType := some (.object "java/lang/Object") }, accessFlags := 260, code := none }
/-- java/lang/Object -/
def k0 : Class := { plain "java/lang/Object" none with
  accessFlags := 33
  interfaces := #[]
  cf := some (fileOf pool0 8 #[] #[{ accessFlags := 1, nameIndex := 5, descriptorIndex := 6, attributes := #[] }, { accessFlags := 260, nameIndex := 96, descriptorIndex := 97, attributes := #[] }] 33 0 #[] #[])
  fields := #[]
  methods := #[k0m0, k0m1]
  instanceTypes := #[]
  staticTypes := #[]
  resolved := Array.replicate 124 none
  statics := none }

def pool1 : Array CpInfo := pool [(2, .class_ 4), (1, u "java/lang/Object"), (0, u "<init>"), (0, u "()V"), (0, .class_ 8), (0, u "com/example/narrow_bound/narrowbound/witness/CumulativeFunction"), (0, .methodref 7 10), (0, .nameAndType 5 11), (0, u "([D[D)V"), (0, .methodref 7 13), (0, .nameAndType 14 15), (0, u "levels"), (0, u "()[D"), (0, .methodref 17 18), (0, .class_ 19), (0, .nameAndType 20 21), (0, u "com/example/narrow_bound/narrowbound/witness/CumulativeFunctionLevelsPinLaw"), (0, u "same"), (0, u "([D[DII)Z"), (2, u "law"), (0, u "(IIIII)Z")] 5

def k1m0 : Method := { name := "<init>", desc := "()V", sig := { parameters := [], returnType := none }, accessFlags := 1, code := none }
def k1c1 : Code := { maxStack := 5, maxLocals := 26, code := code, exceptionTable := #[], attributes := #[] }
def k1m1 : Method := { name := "law", desc := "(IIIII)Z", sig := { parameters := [.int, .int, .int, .int, .int], returnType := some .boolean }, accessFlags := 9, code := some k1c1 }
def k1c2 : Code := { maxStack := 4, maxLocals := 4, code := method_3_code, exceptionTable := #[], attributes := #[] }
def k1m2 : Method := { name := "same", desc := "([D[DII)Z", sig := { parameters := [(.array .double), (.array .double), .int, .int], returnType := some .boolean }, accessFlags := 10, code := some k1c2 }
/-- com/example/narrow_bound/narrowbound/witness/CumulativeFunctionLevelsPinLaw -/
def k1 : Class := { plain "com/example/narrow_bound/narrowbound/witness/CumulativeFunctionLevelsPinLaw" (some 0) with
  accessFlags := 49
  interfaces := #[]
  cf := some (fileOf pool1 17 #[] #[{ accessFlags := 1, nameIndex := 5, descriptorIndex := 6, attributes := #[] }, { accessFlags := 9, nameIndex := 24, descriptorIndex := 25, attributes := #[] }, { accessFlags := 10, nameIndex := 20, descriptorIndex := 21, attributes := #[] }] 49 2 #[] #[])
  fields := #[]
  methods := #[k1m0, k1m1, k1m2]
  instanceTypes := #[]
  staticTypes := #[]
  resolved := Array.replicate 31 none
  statics := none }

def pool2 : Array CpInfo := pool [(1, .methodref 2 3), (0, .class_ 4), (0, .nameAndType 5 6), (0, u "java/lang/Object"), (0, u "<init>"), (0, u "()V"), (9, .methodref 17 18), (0, .class_ 19), (0, .nameAndType 20 21), (0, u "java/lang/Double"), (0, u "isFinite"), (0, u "(D)Z"), (10, .methodref 33 34), (0, .class_ 35), (0, .nameAndType 36 37), (0, u "[D"), (0, u "clone"), (0, u "()Ljava/lang/Object;"), (0, .fieldref 39 40), (0, .class_ 41), (0, .nameAndType 42 35), (0, u "com/example/narrow_bound/narrowbound/witness/CumulativeFunction"), (0, u "times"), (0, .fieldref 39 44), (0, .nameAndType 45 35), (0, u "values"), (0, .class_ 47), (0, u "java/util/ArrayList"), (0, .methodref 46 3), (0, .methodref 50 51), (0, .class_ 52), (0, .nameAndType 53 54), (0, u "java/lang/Integer"), (0, u "valueOf"), (0, u "(I)Ljava/lang/Integer;"), (0, .interfaceMethodref 56 57), (0, .class_ 58), (0, .nameAndType 59 60), (0, u "java/util/List"), (0, u "add"), (0, u "(Ljava/lang/Object;)Z"), (0, .interfaceMethodref 56 62), (0, .nameAndType 63 64), (0, u "size"), (0, u "()I"), (0, .fieldref 39 66), (0, .nameAndType 67 35), (0, u "instants"), (0, .fieldref 39 69), (0, .nameAndType 70 35), (0, u "lefts"), (0, .fieldref 39 72), (0, .nameAndType 73 35), (0, u "rights"), (0, .interfaceMethodref 56 75), (0, .nameAndType 76 77), (0, u "get"), (0, u "(I)Ljava/lang/Object;"), (0, .methodref 50 79), (0, .nameAndType 80 64), (0, u "intValue"), (19, .methodref 39 101), (0, .nameAndType 102 103), (0, u "runValue"), (0, u "(I)D"), (4, u "([D[D)V"), (2, u "ZERO"), (0, u "Lcom/example/narrow_bound/narrowbound/witness/CumulativeFunction;"), (5, u "()[D"), (5, u "levels")] 28

def k2c0 : Code := { maxStack := 8, maxLocals := 7, code := prog_37_method_1_code, exceptionTable := #[], attributes := #[] }
def k2m0 : Method := { name := "<init>", desc := "([D[D)V", sig := { parameters := [(.array .double), (.array .double)], returnType := none }, accessFlags := 1, code := some k2c0 }
def k2c1 : Code := { maxStack := 4, maxLocals := 3, code := prog_37_method_10_code, exceptionTable := #[], attributes := #[] }
def k2m1 : Method := { name := "levels", desc := "()[D", sig := { parameters := [], returnType := some (.array .double) }, accessFlags := 1, code := some k2c1 }
def k2c2 : Code := { maxStack := 3, maxLocals := 2, code := prog_37_method_12_code, exceptionTable := #[], attributes := #[] }
def k2m2 : Method := { name := "runValue", desc := "(I)D", sig := { parameters := [.int], returnType := some .double }, accessFlags := 2, code := some k2c2 }
/-- com/example/narrow_bound/narrowbound/witness/CumulativeFunction -/
def k2 : Class := { plain "com/example/narrow_bound/narrowbound/witness/CumulativeFunction" (some 0) with
  accessFlags := 33
  interfaces := #[]
  cf := some (fileOf pool2 39 #[] #[{ accessFlags := 1, nameIndex := 5, descriptorIndex := 108, attributes := #[] }, { accessFlags := 1, nameIndex := 124, descriptorIndex := 118, attributes := #[] }, { accessFlags := 2, nameIndex := 102, descriptorIndex := 103, attributes := #[] }] 33 2 #[] #[{ accessFlags := 25, nameIndex := 111, descriptorIndex := 112, attributes := #[] }, { accessFlags := 18, nameIndex := 42, descriptorIndex := 35, attributes := #[] }, { accessFlags := 18, nameIndex := 45, descriptorIndex := 35, attributes := #[] }, { accessFlags := 18, nameIndex := 67, descriptorIndex := 35, attributes := #[] }, { accessFlags := 18, nameIndex := 70, descriptorIndex := 35, attributes := #[] }, { accessFlags := 18, nameIndex := 73, descriptorIndex := 35, attributes := #[] }])
  fields := #[{ name := "ZERO", type := (.object "com/example/narrow_bound/narrowbound/witness/CumulativeFunction"), accessFlags := 25, slot := 0, constantValue := 0 }, { name := "times", type := (.array .double), accessFlags := 18, slot := 0, constantValue := 0 }, { name := "values", type := (.array .double), accessFlags := 18, slot := 1, constantValue := 0 }, { name := "instants", type := (.array .double), accessFlags := 18, slot := 2, constantValue := 0 }, { name := "lefts", type := (.array .double), accessFlags := 18, slot := 3, constantValue := 0 }, { name := "rights", type := (.array .double), accessFlags := 18, slot := 4, constantValue := 0 }]
  methods := #[k2m0, k2m1, k2m2]
  instanceTypes := #[(.array .double), (.array .double), (.array .double), (.array .double), (.array .double)]
  staticTypes := #[(.object "com/example/narrow_bound/narrowbound/witness/CumulativeFunction")]
  resolved := Array.replicate 153 none
  statics := none }

def pool3 : Array CpInfo := pool [(1, .class_ 2), (0, u "java/lang/Cloneable"), (0, .class_ 4), (0, u "java/lang/Object")] 2

/-- java/lang/Cloneable -/
def k3 : Class := { plain "java/lang/Cloneable" (some 0) with
  accessFlags := 1537
  interfaces := #[]
  cf := some (fileOf pool3 1 #[] #[] 1537 3 #[] #[])
  fields := #[]
  methods := #[]
  instanceTypes := #[]
  staticTypes := #[]
  resolved := Array.replicate 7 none
  statics := none }

def pool4 : Array CpInfo := pool [(8, .class_ 10), (1, u "java/lang/Iterable"), (24, .class_ 36), (0, u "java/lang/Object")] 25

/-- java/lang/Iterable -/
def k4 : Class := { plain "java/lang/Iterable" (some 0) with
  accessFlags := 1537
  interfaces := #[]
  cf := some (fileOf pool4 8 #[] #[] 1537 35 #[] #[])
  fields := #[]
  methods := #[]
  instanceTypes := #[]
  staticTypes := #[]
  resolved := Array.replicate 62 none
  statics := none }

def pool5 : Array CpInfo := pool [(10, .class_ 12), (1, u "java/util/Collection"), (47, .class_ 61), (0, u "java/lang/Object"), (0, .class_ 63), (0, u "java/lang/Iterable")] 51

/-- java/util/Collection -/
def k5 : Class := { plain "java/util/Collection" (some 0) with
  accessFlags := 1537
  interfaces := #[4]
  cf := some (fileOf pool5 10 #[] #[] 1537 60 #[62] #[])
  fields := #[]
  methods := #[]
  instanceTypes := #[]
  staticTypes := #[]
  resolved := Array.replicate 115 none
  statics := none }

def pool6 : Array CpInfo := pool [(1, .methodref 2 3), (0, .class_ 4), (0, .nameAndType 5 6), (0, u "java/lang/Object"), (0, u "<init>"), (0, u "()V"), (1, .class_ 10), (1, u "java/util/AbstractCollection"), (66, .class_ 78), (0, u "java/util/Collection")] 81

def k6c0 : Code := { maxStack := 1, maxLocals := 1, code := jdk_22_method_1_code, exceptionTable := #[], attributes := #[] }
def k6m0 : Method := { name := "<init>", desc := "()V", sig := { parameters := [], returnType := none }, accessFlags := 4, code := some k6c0 }
/-- java/util/AbstractCollection -/
def k6 : Class := { plain "java/util/AbstractCollection" (some 0) with
  accessFlags := 1057
  interfaces := #[5]
  cf := some (fileOf pool6 8 #[] #[{ accessFlags := 4, nameIndex := 5, descriptorIndex := 6, attributes := #[] }] 1057 2 #[77] #[])
  fields := #[]
  methods := #[k6m0]
  instanceTypes := #[]
  staticTypes := #[]
  resolved := Array.replicate 160 none
  statics := none }

def pool7 : Array CpInfo := pool [(8, .class_ 10), (1, u "java/util/SequencedCollection"), (15, .class_ 27), (0, u "java/lang/Object"), (0, .class_ 29), (0, u "java/util/Collection")] 27

/-- java/util/SequencedCollection -/
def k7 : Class := { plain "java/util/SequencedCollection" (some 0) with
  accessFlags := 1537
  interfaces := #[5]
  cf := some (fileOf pool7 8 #[] #[] 1537 26 #[28] #[])
  fields := #[]
  methods := #[]
  instanceTypes := #[]
  staticTypes := #[]
  resolved := Array.replicate 57 none
  statics := none }

def pool8 : Array CpInfo := pool [(8, .class_ 10), (1, u "java/util/List"), (49, u "add"), (3, u "(Ljava/lang/Object;)Z"), (10, u "get"), (0, u "(I)Ljava/lang/Object;"), (2, u "size"), (0, u "()I"), (22, .class_ 104), (0, u "java/lang/Object"), (15, .class_ 121), (0, u "java/util/SequencedCollection")] 129

def k8m0 : Method := { name := "size", desc := "()I", sig := { parameters := [], returnType := some .int }, accessFlags := 1025, code := none }
def k8m1 : Method := { name := "add", desc := "(Ljava/lang/Object;)Z", sig := { parameters := [(.object "java/lang/Object")], returnType := some .boolean }, accessFlags := 1025, code := none }
def k8m2 : Method := { name := "get", desc := "(I)Ljava/lang/Object;", sig := { parameters := [.int], returnType := some (.object "java/lang/Object") }, accessFlags := 1025, code := none }
/-- java/util/List -/
def k8 : Class := { plain "java/util/List" (some 0) with
  accessFlags := 1537
  interfaces := #[7]
  cf := some (fileOf pool8 8 #[] #[{ accessFlags := 1025, nameIndex := 79, descriptorIndex := 80, attributes := #[] }, { accessFlags := 1025, nameIndex := 60, descriptorIndex := 64, attributes := #[] }, { accessFlags := 1025, nameIndex := 75, descriptorIndex := 76, attributes := #[] }] 1537 103 #[120] #[])
  fields := #[]
  methods := #[k8m0, k8m1, k8m2]
  instanceTypes := #[]
  staticTypes := #[]
  resolved := Array.replicate 251 none
  statics := none }

def pool9 : Array CpInfo := pool [(1, .methodref 2 3), (0, .class_ 4), (0, .nameAndType 5 6), (0, u "java/util/AbstractCollection"), (0, u "<init>"), (0, u "()V"), (0, .fieldref 8 9), (0, .class_ 10), (0, .nameAndType 11 12), (0, u "java/util/AbstractList"), (0, u "modCount"), (0, u "I"), (64, .class_ 78), (0, u "java/util/AbstractList$Itr"), (3, .class_ 83), (0, u "java/util/AbstractList$ListItr"), (9, .class_ 94), (0, u "java/util/AbstractList$RandomAccessSubList"), (3, .class_ 99), (0, u "java/util/AbstractList$SubList"), (33, .class_ 134), (0, u "java/util/List"), (73, .class_ 209), (0, u "java/util/AbstractList$SubList$1"), (0, .class_ 211), (0, u "java/util/AbstractList$RandomAccessSpliterator")] 6

def k9c0 : Code := { maxStack := 2, maxLocals := 1, code := jdk_39_method_1_code, exceptionTable := #[], attributes := #[] }
def k9m0 : Method := { name := "<init>", desc := "()V", sig := { parameters := [], returnType := none }, accessFlags := 4, code := some k9c0 }
/-- java/util/AbstractList -/
def k9 : Class := { plain "java/util/AbstractList" (some 6) with
  accessFlags := 1057
  interfaces := #[8]
  cf := some (fileOf pool9 8 #[.nestMembers #[93, 98, 208, 210, 82, 77]] #[{ accessFlags := 4, nameIndex := 5, descriptorIndex := 6, attributes := #[] }] 1057 2 #[133] #[{ accessFlags := 132, nameIndex := 11, descriptorIndex := 12, attributes := #[] }])
  fields := #[{ name := "modCount", type := .int, accessFlags := 132, slot := 0, constantValue := 0 }]
  methods := #[k9m0]
  instanceTypes := #[.int]
  staticTypes := #[]
  resolved := Array.replicate 218 none
  statics := none }

def pool10 : Array CpInfo := pool [(1, .class_ 2), (0, u "java/util/RandomAccess"), (0, .class_ 4), (0, u "java/lang/Object")] 2

/-- java/util/RandomAccess -/
def k10 : Class := { plain "java/util/RandomAccess" (some 0) with
  accessFlags := 1537
  interfaces := #[]
  cf := some (fileOf pool10 1 #[] #[] 1537 3 #[] #[])
  fields := #[]
  methods := #[]
  instanceTypes := #[]
  staticTypes := #[]
  resolved := Array.replicate 7 none
  statics := none }

def pool11 : Array CpInfo := pool [(1, .class_ 2), (0, u "java/io/Serializable"), (0, .class_ 4), (0, u "java/lang/Object")] 2

/-- java/io/Serializable -/
def k11 : Class := { plain "java/io/Serializable" (some 0) with
  accessFlags := 1537
  interfaces := #[]
  cf := some (fileOf pool11 1 #[] #[] 1537 3 #[] #[])
  fields := #[]
  methods := #[]
  instanceTypes := #[]
  staticTypes := #[]
  resolved := Array.replicate 7 none
  statics := none }

def pool12 : Array CpInfo := pool [(1, .methodref 2 3), (0, .class_ 4), (0, .nameAndType 5 6), (0, u "java/util/AbstractList"), (0, u "<init>"), (0, u "()V"), (0, .class_ 8), (0, u "java/lang/Object"), (0, .fieldref 10 11), (0, .class_ 12), (0, .nameAndType 13 14), (0, u "java/util/ArrayList"), (0, u "elementData"), (0, u "[Ljava/lang/Object;"), (2, u "EMPTY_ELEMENTDATA"), (21, .fieldref 10 40), (0, .nameAndType 41 14), (0, u "DEFAULTCAPACITY_EMPTY_ELEMENTDATA"), (5, u "()[Ljava/lang/Object;"), (0, .fieldref 10 49), (0, .nameAndType 50 51), (0, u "size"), (0, u "I"), (11, .fieldref 10 64), (0, .nameAndType 65 51), (0, u "modCount"), (3, .methodref 10 70), (0, .nameAndType 71 72), (0, u "grow"), (0, u "(I)[Ljava/lang/Object;"), (6, .methodref 80 81), (0, .class_ 82), (0, .nameAndType 83 84), (0, u "java/lang/Math"), (0, u "max"), (0, u "(II)I"), (11, u "(Ljava/lang/Object;)Z"), (21, .methodref 119 120), (0, .class_ 121), (0, .nameAndType 122 84), (0, u "java/util/Objects"), (0, u "checkIndex"), (0, .methodref 10 124), (0, .nameAndType 13 125), (0, u "(I)Ljava/lang/Object;"), (3, .methodref 10 130), (0, .nameAndType 71 47), (0, .methodref 10 132), (0, .nameAndType 133 134), (0, u "add"), (0, u "(Ljava/lang/Object;[Ljava/lang/Object;I)V"), (13, .class_ 149), (0, u "java/util/List"), (36, u "()I"), (75, .class_ 263), (0, u "java/util/ArrayList$ListItr"), (3, .class_ 268), (0, u "java/util/ArrayList$Itr"), (7, .class_ 277), (0, u "java/util/ArrayList$SubList"), (12, .class_ 291), (0, u "java/util/ArrayList$ArrayListSpliterator"), (37, .class_ 330), (0, u "java/util/RandomAccess"), (0, .class_ 332), (0, u "java/lang/Cloneable"), (0, .class_ 334), (0, u "java/io/Serializable"), (0, u "serialVersionUID"), (0, u "J"), (3, u "DEFAULT_CAPACITY"), (40, u "get"), (118, .class_ 501), (0, u "java/util/ArrayList$SubList$2"), (0, .class_ 503), (0, u "java/util/ArrayList$SubList$1")] 5

def k12c0 : Code := { maxStack := 2, maxLocals := 1, code := jdk_38_method_2_code, exceptionTable := #[], attributes := #[] }
def k12m0 : Method := { name := "<init>", desc := "()V", sig := { parameters := [], returnType := none }, accessFlags := 1, code := some k12c0 }
def k12c1 : Code := { maxStack := 4, maxLocals := 4, code := jdk_38_method_6_code, exceptionTable := #[], attributes := #[] }
def k12m1 : Method := { name := "grow", desc := "(I)[Ljava/lang/Object;", sig := { parameters := [.int], returnType := some (.array (.object "java/lang/Object")) }, accessFlags := 2, code := some k12c1 }
def k12c2 : Code := { maxStack := 3, maxLocals := 1, code := jdk_38_method_7_code, exceptionTable := #[], attributes := #[] }
def k12m2 : Method := { name := "grow", desc := "()[Ljava/lang/Object;", sig := { parameters := [], returnType := some (.array (.object "java/lang/Object")) }, accessFlags := 2, code := some k12c2 }
def k12c3 : Code := { maxStack := 1, maxLocals := 1, code := jdk_38_method_8_code, exceptionTable := #[], attributes := #[] }
def k12m3 : Method := { name := "size", desc := "()I", sig := { parameters := [], returnType := some .int }, accessFlags := 1, code := some k12c3 }
def k12c4 : Code := { maxStack := 2, maxLocals := 2, code := jdk_38_method_18_code, exceptionTable := #[], attributes := #[] }
def k12m4 : Method := { name := "elementData", desc := "(I)Ljava/lang/Object;", sig := { parameters := [.int], returnType := some (.object "java/lang/Object") }, accessFlags := 0, code := some k12c4 }
def k12c5 : Code := { maxStack := 2, maxLocals := 2, code := jdk_38_method_20_code, exceptionTable := #[], attributes := #[] }
def k12m5 : Method := { name := "get", desc := "(I)Ljava/lang/Object;", sig := { parameters := [.int], returnType := some (.object "java/lang/Object") }, accessFlags := 1, code := some k12c5 }
def k12c6 : Code := { maxStack := 3, maxLocals := 4, code := jdk_38_method_24_code, exceptionTable := #[], attributes := #[] }
def k12m6 : Method := { name := "add", desc := "(Ljava/lang/Object;[Ljava/lang/Object;I)V", sig := { parameters := [(.object "java/lang/Object"), (.array (.object "java/lang/Object")), .int], returnType := none }, accessFlags := 2, code := some k12c6 }
def k12c7 : Code := { maxStack := 4, maxLocals := 2, code := jdk_38_method_25_code, exceptionTable := #[], attributes := #[] }
def k12m7 : Method := { name := "add", desc := "(Ljava/lang/Object;)Z", sig := { parameters := [(.object "java/lang/Object")], returnType := some .boolean }, accessFlags := 1, code := some k12c7 }
/-- java/util/ArrayList -/
def k12 : Class := { plain "java/util/ArrayList" (some 9) with
  accessFlags := 33
  interfaces := #[8, 10, 3, 11]
  cf := some (fileOf pool12 10 #[.nestMembers #[290, 276, 500, 502, 262, 267]] #[{ accessFlags := 1, nameIndex := 5, descriptorIndex := 6, attributes := #[] }, { accessFlags := 2, nameIndex := 71, descriptorIndex := 72, attributes := #[] }, { accessFlags := 2, nameIndex := 71, descriptorIndex := 47, attributes := #[] }, { accessFlags := 1, nameIndex := 50, descriptorIndex := 186, attributes := #[] }, { accessFlags := 0, nameIndex := 13, descriptorIndex := 125, attributes := #[] }, { accessFlags := 1, nameIndex := 381, descriptorIndex := 125, attributes := #[] }, { accessFlags := 2, nameIndex := 133, descriptorIndex := 134, attributes := #[] }, { accessFlags := 1, nameIndex := 133, descriptorIndex := 96, attributes := #[] }] 33 2 #[148, 329, 331, 333] #[{ accessFlags := 26, nameIndex := 335, descriptorIndex := 336, attributes := #[] }, { accessFlags := 26, nameIndex := 340, descriptorIndex := 51, attributes := #[] }, { accessFlags := 26, nameIndex := 17, descriptorIndex := 14, attributes := #[] }, { accessFlags := 26, nameIndex := 41, descriptorIndex := 14, attributes := #[] }, { accessFlags := 128, nameIndex := 13, descriptorIndex := 14, attributes := #[] }, { accessFlags := 2, nameIndex := 50, descriptorIndex := 51, attributes := #[] }])
  fields := #[{ name := "serialVersionUID", type := .long, accessFlags := 26, slot := 0, constantValue := 0 }, { name := "DEFAULT_CAPACITY", type := .int, accessFlags := 26, slot := 1, constantValue := 0 }, { name := "EMPTY_ELEMENTDATA", type := (.array (.object "java/lang/Object")), accessFlags := 26, slot := 2, constantValue := 0 }, { name := "DEFAULTCAPACITY_EMPTY_ELEMENTDATA", type := (.array (.object "java/lang/Object")), accessFlags := 26, slot := 3, constantValue := 0 }, { name := "elementData", type := (.array (.object "java/lang/Object")), accessFlags := 128, slot := 1, constantValue := 0 }, { name := "size", type := .int, accessFlags := 2, slot := 2, constantValue := 0 }]
  methods := #[k12m0, k12m1, k12m2, k12m3, k12m4, k12m5, k12m6, k12m7]
  instanceTypes := #[.int, (.array (.object "java/lang/Object")), .int]
  staticTypes := #[.long, .int, (.array (.object "java/lang/Object")), (.array (.object "java/lang/Object"))]
  resolved := Array.replicate 509 none
  statics := some 0 }

def pool13 : Array CpInfo := pool [(2, .class_ 4), (1, u "java/lang/Object"), (0, u "<init>"), (0, u "()V"), (1, .class_ 10), (1, u "java/lang/Number"), (2, .class_ 14), (0, u "java/io/Serializable"), (0, u "serialVersionUID"), (0, u "J")] 20

def k13m0 : Method := { name := "<init>", desc := "()V", sig := { parameters := [], returnType := none }, accessFlags := 1, code := none }
/-- java/lang/Number -/
def k13 : Class := { plain "java/lang/Number" (some 0) with
  accessFlags := 1057
  interfaces := #[11]
  cf := some (fileOf pool13 8 #[] #[{ accessFlags := 1, nameIndex := 5, descriptorIndex := 6, attributes := #[] }] 1057 2 #[13] #[{ accessFlags := 26, nameIndex := 15, descriptorIndex := 16, attributes := #[] }])
  fields := #[{ name := "serialVersionUID", type := .long, accessFlags := 26, slot := 0, constantValue := 0 }]
  methods := #[k13m0]
  instanceTypes := #[]
  staticTypes := #[.long]
  resolved := Array.replicate 37 none
  statics := none }

def pool14 : Array CpInfo := pool [(1, .class_ 2), (0, u "java/lang/Comparable"), (0, .class_ 4), (0, u "java/lang/Object")] 7

/-- java/lang/Comparable -/
def k14 : Class := { plain "java/lang/Comparable" (some 0) with
  accessFlags := 1537
  interfaces := #[]
  cf := some (fileOf pool14 1 #[] #[] 1537 3 #[] #[])
  fields := #[]
  methods := #[]
  instanceTypes := #[]
  staticTypes := #[]
  resolved := Array.replicate 12 none
  statics := none }

def pool15 : Array CpInfo := pool [(1, .class_ 2), (0, u "java/lang/constant/Constable"), (0, .class_ 4), (0, u "java/lang/Object")] 6

/-- java/lang/constant/Constable -/
def k15 : Class := { plain "java/lang/constant/Constable" (some 0) with
  accessFlags := 1537
  interfaces := #[]
  cf := some (fileOf pool15 1 #[] #[] 1537 3 #[] #[])
  fields := #[]
  methods := #[]
  instanceTypes := #[]
  staticTypes := #[]
  resolved := Array.replicate 11 none
  statics := none }

def pool16 : Array CpInfo := pool [(1, .class_ 2), (0, u "java/lang/constant/ConstantDesc"), (0, .class_ 4), (0, u "java/lang/Object")] 32

/-- java/lang/constant/ConstantDesc -/
def k16 : Class := { plain "java/lang/constant/ConstantDesc" (some 0) with
  accessFlags := 1537
  interfaces := #[]
  cf := some (fileOf pool16 1 #[] #[] 1537 3 #[] #[])
  fields := #[]
  methods := #[]
  instanceTypes := #[]
  staticTypes := #[]
  resolved := Array.replicate 37 none
  statics := none }

def pool17 : Array CpInfo := pool [(1, .class_ 2), (0, u "java/lang/Double"), (10, u "isFinite"), (0, u "(D)Z"), (8, .class_ 25), (1, u "java/lang/Math"), (12, .methodref 23 39), (0, .nameAndType 40 41), (0, u "abs"), (0, u "(D)D"), (69, .double 9218868437227405311), (2, .class_ 116), (1, u "java/lang/Number"), (3, u "value"), (0, u "D"), (51, u "TYPE"), (0, u "Ljava/lang/Class;"), (0, .class_ 176), (0, u "java/lang/Comparable"), (0, .class_ 178), (0, u "java/lang/constant/Constable"), (0, .class_ 180), (0, u "java/lang/constant/ConstantDesc"), (0, u "POSITIVE_INFINITY"), (3, u "NEGATIVE_INFINITY"), (2, u "NaN"), (2, u "MAX_VALUE"), (0, u "MIN_NORMAL"), (0, u "MIN_VALUE"), (2, u "SIZE"), (0, u "I"), (1, u "PRECISION"), (1, u "MAX_EXPONENT"), (1, u "MIN_EXPONENT"), (1, u "BYTES"), (3, u "serialVersionUID"), (0, u "J")] 79

def k17c0 : Code := { maxStack := 4, maxLocals := 2, code := jdk_117_method_8_code, exceptionTable := #[], attributes := #[] }
def k17m0 : Method := { name := "isFinite", desc := "(D)Z", sig := { parameters := [.double], returnType := some .boolean }, accessFlags := 9, code := some k17c0 }
/-- java/lang/Double -/
def k17 : Class := { plain "java/lang/Double" (some 13) with
  accessFlags := 49
  interfaces := #[14, 15, 16]
  cf := some (fileOf pool17 1 #[] #[{ accessFlags := 9, nameIndex := 13, descriptorIndex := 14, attributes := #[] }] 49 114 #[175, 177, 179] #[{ accessFlags := 25, nameIndex := 181, descriptorIndex := 121, attributes := #[] }, { accessFlags := 25, nameIndex := 185, descriptorIndex := 121, attributes := #[] }, { accessFlags := 25, nameIndex := 188, descriptorIndex := 121, attributes := #[] }, { accessFlags := 25, nameIndex := 191, descriptorIndex := 121, attributes := #[] }, { accessFlags := 25, nameIndex := 192, descriptorIndex := 121, attributes := #[] }, { accessFlags := 25, nameIndex := 193, descriptorIndex := 121, attributes := #[] }, { accessFlags := 25, nameIndex := 196, descriptorIndex := 197, attributes := #[] }, { accessFlags := 25, nameIndex := 199, descriptorIndex := 197, attributes := #[] }, { accessFlags := 25, nameIndex := 201, descriptorIndex := 197, attributes := #[] }, { accessFlags := 25, nameIndex := 203, descriptorIndex := 197, attributes := #[] }, { accessFlags := 25, nameIndex := 205, descriptorIndex := 197, attributes := #[] }, { accessFlags := 25, nameIndex := 173, descriptorIndex := 174, attributes := #[] }, { accessFlags := 18, nameIndex := 120, descriptorIndex := 121, attributes := #[] }, { accessFlags := 26, nameIndex := 209, descriptorIndex := 210, attributes := #[] }])
  fields := #[{ name := "POSITIVE_INFINITY", type := .double, accessFlags := 25, slot := 0, constantValue := 0 }, { name := "NEGATIVE_INFINITY", type := .double, accessFlags := 25, slot := 1, constantValue := 0 }, { name := "NaN", type := .double, accessFlags := 25, slot := 2, constantValue := 0 }, { name := "MAX_VALUE", type := .double, accessFlags := 25, slot := 3, constantValue := 0 }, { name := "MIN_NORMAL", type := .double, accessFlags := 25, slot := 4, constantValue := 0 }, { name := "MIN_VALUE", type := .double, accessFlags := 25, slot := 5, constantValue := 0 }, { name := "SIZE", type := .int, accessFlags := 25, slot := 6, constantValue := 0 }, { name := "PRECISION", type := .int, accessFlags := 25, slot := 7, constantValue := 0 }, { name := "MAX_EXPONENT", type := .int, accessFlags := 25, slot := 8, constantValue := 0 }, { name := "MIN_EXPONENT", type := .int, accessFlags := 25, slot := 9, constantValue := 0 }, { name := "BYTES", type := .int, accessFlags := 25, slot := 10, constantValue := 0 }, { name := "TYPE", type := (.object "java/lang/Class"), accessFlags := 25, slot := 11, constantValue := 0 }, { name := "value", type := .double, accessFlags := 18, slot := 0, constantValue := 0 }, { name := "serialVersionUID", type := .long, accessFlags := 26, slot := 12, constantValue := 0 }]
  methods := #[k17m0]
  instanceTypes := #[.double]
  staticTypes := #[.double, .double, .double, .double, .double, .double, .int, .int, .int, .int, .int, (.object "java/lang/Class"), .long]
  resolved := Array.replicate 290 none
  statics := none }

def pool18 : Array CpInfo := pool [(1, .class_ 2), (0, u "java/lang/Math"), (1, .class_ 6), (1, u "java/lang/Object"), (0, u "<init>"), (0, u "()V"), (5, u "(D)D"), (83, .class_ 100), (1, u "java/lang/Math$RandomNumberGeneratorHolder"), (23, u "abs"), (47, u "negativeZeroFloatBits"), (0, u "J"), (2, u "negativeZeroDoubleBits"), (21, u "max"), (46, u "$assertionsDisabled"), (0, u "Z"), (88, u "(II)I"), (2, u "twoToTheDoubleScaleDown"), (0, u "D"), (4, u "twoToTheDoubleScaleUp"), (9, u "E"), (3, u "PI"), (2, u "TAU"), (2, u "DEGREES_TO_RADIANS"), (0, u "RADIANS_TO_DEGREES")] 94

def k18m0 : Method := { name := "<init>", desc := "()V", sig := { parameters := [], returnType := none }, accessFlags := 2, code := none }
def k18c1 : Code := { maxStack := 4, maxLocals := 2, code := jdk_29_method_64_code, exceptionTable := #[], attributes := #[] }
def k18m1 : Method := { name := "abs", desc := "(D)D", sig := { parameters := [.double], returnType := some .double }, accessFlags := 9, code := some k18c1 }
def k18c2 : Code := { maxStack := 2, maxLocals := 2, code := jdk_29_method_65_code, exceptionTable := #[], attributes := #[] }
def k18m2 : Method := { name := "max", desc := "(II)I", sig := { parameters := [.int, .int], returnType := some .int }, accessFlags := 9, code := some k18c2 }
/-- java/lang/Math -/
def k18 : Class := { plain "java/lang/Math" (some 0) with
  accessFlags := 49
  interfaces := #[]
  cf := some (fileOf pool18 1 #[.nestMembers #[98]] #[{ accessFlags := 2, nameIndex := 7, descriptorIndex := 8, attributes := #[] }, { accessFlags := 9, nameIndex := 124, descriptorIndex := 14, attributes := #[] }, { accessFlags := 9, nameIndex := 198, descriptorIndex := 335, attributes := #[] }] 49 4 #[] #[{ accessFlags := 25, nameIndex := 354, descriptorIndex := 339, attributes := #[] }, { accessFlags := 25, nameIndex := 358, descriptorIndex := 339, attributes := #[] }, { accessFlags := 25, nameIndex := 361, descriptorIndex := 339, attributes := #[] }, { accessFlags := 26, nameIndex := 364, descriptorIndex := 339, attributes := #[] }, { accessFlags := 26, nameIndex := 365, descriptorIndex := 339, attributes := #[] }, { accessFlags := 26, nameIndex := 172, descriptorIndex := 173, attributes := #[] }, { accessFlags := 26, nameIndex := 176, descriptorIndex := 173, attributes := #[] }, { accessFlags := 8, nameIndex := 344, descriptorIndex := 339, attributes := #[] }, { accessFlags := 8, nameIndex := 338, descriptorIndex := 339, attributes := #[] }, { accessFlags := 4120, nameIndex := 245, descriptorIndex := 246, attributes := #[] }])
  fields := #[{ name := "E", type := .double, accessFlags := 25, slot := 0, constantValue := 0 }, { name := "PI", type := .double, accessFlags := 25, slot := 1, constantValue := 0 }, { name := "TAU", type := .double, accessFlags := 25, slot := 2, constantValue := 0 }, { name := "DEGREES_TO_RADIANS", type := .double, accessFlags := 26, slot := 3, constantValue := 0 }, { name := "RADIANS_TO_DEGREES", type := .double, accessFlags := 26, slot := 4, constantValue := 0 }, { name := "negativeZeroFloatBits", type := .long, accessFlags := 26, slot := 5, constantValue := 0 }, { name := "negativeZeroDoubleBits", type := .long, accessFlags := 26, slot := 6, constantValue := 0 }, { name := "twoToTheDoubleScaleUp", type := .double, accessFlags := 8, slot := 7, constantValue := 0 }, { name := "twoToTheDoubleScaleDown", type := .double, accessFlags := 8, slot := 8, constantValue := 0 }, { name := "$assertionsDisabled", type := .boolean, accessFlags := 4120, slot := 9, constantValue := 0 }]
  methods := #[k18m0, k18m1, k18m2]
  instanceTypes := #[]
  staticTypes := #[.double, .double, .double, .double, .double, .long, .long, .double, .double, .boolean]
  resolved := Array.replicate 460 none
  statics := none }

def pool19 : Array CpInfo := pool [(1, .class_ 2), (0, u "java/lang/Integer"), (16, u "digits"), (0, u "[C"), (64, u "DigitOnes"), (0, u "[B"), (2, u "DigitTens"), (31, u "()I"), (65, u "valueOf"), (0, u "(I)Ljava/lang/Integer;"), (0, .class_ 190), (0, u "java/lang/Integer$IntegerCache"), (0, .fieldref 189 192), (0, .nameAndType 193 194), (0, u "high"), (0, u "I"), (0, .fieldref 189 196), (0, .nameAndType 197 198), (0, u "cache"), (0, u "[Ljava/lang/Integer;"), (4, .class_ 204), (0, u "java/lang/Number"), (0, .fieldref 1 206), (0, .nameAndType 207 194), (0, u "value"), (5, u "intValue"), (88, u "TYPE"), (0, u "Ljava/lang/Class;"), (0, .class_ 305), (0, u "java/lang/Comparable"), (0, .class_ 307), (0, u "java/lang/constant/Constable"), (0, .class_ 309), (0, u "java/lang/constant/ConstantDesc"), (0, u "MIN_VALUE"), (1, u "MAX_VALUE"), (3, u "SIZE"), (1, u "BYTES"), (1, u "serialVersionUID"), (0, u "J")] 131

def k19c0 : Code := { maxStack := 3, maxLocals := 1, code := jdk_33_method_22_code, exceptionTable := #[], attributes := #[] }
def k19m0 : Method := { name := "valueOf", desc := "(I)Ljava/lang/Integer;", sig := { parameters := [.int], returnType := some (.object "java/lang/Integer") }, accessFlags := 9, code := some k19c0 }
def k19c1 : Code := { maxStack := 1, maxLocals := 1, code := jdk_33_method_27_code, exceptionTable := #[], attributes := #[] }
def k19m1 : Method := { name := "intValue", desc := "()I", sig := { parameters := [], returnType := some .int }, accessFlags := 1, code := some k19c1 }
/-- java/lang/Integer -/
def k19 : Class := { plain "java/lang/Integer" (some 13) with
  accessFlags := 49
  interfaces := #[14, 15, 16]
  cf := some (fileOf pool19 1 #[.nestMembers #[189]] #[{ accessFlags := 9, nameIndex := 187, descriptorIndex := 188, attributes := #[] }, { accessFlags := 1, nameIndex := 213, descriptorIndex := 121, attributes := #[] }] 49 203 #[304, 306, 308] #[{ accessFlags := 25, nameIndex := 310, descriptorIndex := 194, attributes := #[] }, { accessFlags := 25, nameIndex := 312, descriptorIndex := 194, attributes := #[] }, { accessFlags := 25, nameIndex := 302, descriptorIndex := 303, attributes := #[] }, { accessFlags := 24, nameIndex := 19, descriptorIndex := 20, attributes := #[] }, { accessFlags := 24, nameIndex := 89, descriptorIndex := 86, attributes := #[] }, { accessFlags := 24, nameIndex := 85, descriptorIndex := 86, attributes := #[] }, { accessFlags := 18, nameIndex := 207, descriptorIndex := 194, attributes := #[] }, { accessFlags := 25, nameIndex := 316, descriptorIndex := 194, attributes := #[] }, { accessFlags := 25, nameIndex := 318, descriptorIndex := 194, attributes := #[] }, { accessFlags := 26, nameIndex := 320, descriptorIndex := 321, attributes := #[] }])
  fields := #[{ name := "MIN_VALUE", type := .int, accessFlags := 25, slot := 0, constantValue := 0 }, { name := "MAX_VALUE", type := .int, accessFlags := 25, slot := 1, constantValue := 0 }, { name := "TYPE", type := (.object "java/lang/Class"), accessFlags := 25, slot := 2, constantValue := 0 }, { name := "digits", type := (.array .char), accessFlags := 24, slot := 3, constantValue := 0 }, { name := "DigitTens", type := (.array .byte), accessFlags := 24, slot := 4, constantValue := 0 }, { name := "DigitOnes", type := (.array .byte), accessFlags := 24, slot := 5, constantValue := 0 }, { name := "value", type := .int, accessFlags := 18, slot := 0, constantValue := 0 }, { name := "SIZE", type := .int, accessFlags := 25, slot := 6, constantValue := 0 }, { name := "BYTES", type := .int, accessFlags := 25, slot := 7, constantValue := 0 }, { name := "serialVersionUID", type := .long, accessFlags := 26, slot := 8, constantValue := 0 }]
  methods := #[k19m0, k19m1]
  instanceTypes := #[.int]
  staticTypes := #[.int, .int, (.object "java/lang/Class"), (.array .char), (.array .byte), (.array .byte), .int, .int, .long]
  resolved := Array.replicate 453 none
  statics := none }

def pool20 : Array CpInfo := pool [(2, .class_ 4), (1, u "java/lang/Object"), (0, u "<init>"), (0, u "()V"), (0, .class_ 8), (0, u "java/lang/Integer"), (7, .class_ 18), (1, u "java/lang/Integer$IntegerCache"), (0, u "$assertionsDisabled"), (0, u "Z"), (26, u "high"), (0, u "I"), (8, u "archivedCache"), (0, u "[Ljava/lang/Integer;"), (12, u "cache"), (0, u "low")] 27

def k20m0 : Method := { name := "<init>", desc := "()V", sig := { parameters := [], returnType := none }, accessFlags := 2, code := none }
/-- java/lang/Integer$IntegerCache -/
def k20 : Class := { plain "java/lang/Integer$IntegerCache" (some 0) with
  accessFlags := 48
  interfaces := #[]
  cf := some (fileOf pool20 16 #[.nestHost 7] #[{ accessFlags := 2, nameIndex := 5, descriptorIndex := 6, attributes := #[] }] 48 2 #[] #[{ accessFlags := 24, nameIndex := 72, descriptorIndex := 48, attributes := #[] }, { accessFlags := 24, nameIndex := 47, descriptorIndex := 48, attributes := #[] }, { accessFlags := 24, nameIndex := 71, descriptorIndex := 58, attributes := #[] }, { accessFlags := 8, nameIndex := 57, descriptorIndex := 58, attributes := #[] }, { accessFlags := 4120, nameIndex := 19, descriptorIndex := 20, attributes := #[] }])
  fields := #[{ name := "low", type := .int, accessFlags := 24, slot := 0, constantValue := 0 }, { name := "high", type := .int, accessFlags := 24, slot := 1, constantValue := 0 }, { name := "cache", type := (.array (.object "java/lang/Integer")), accessFlags := 24, slot := 2, constantValue := 0 }, { name := "archivedCache", type := (.array (.object "java/lang/Integer")), accessFlags := 8, slot := 3, constantValue := 0 }, { name := "$assertionsDisabled", type := .boolean, accessFlags := 4120, slot := 4, constantValue := 0 }]
  methods := #[k20m0]
  instanceTypes := #[]
  staticTypes := #[.int, .int, (.array (.object "java/lang/Integer")), (.array (.object "java/lang/Integer")), .boolean]
  resolved := Array.replicate 100 none
  statics := some 1 }

def pool21 : Array CpInfo := pool [(2, .class_ 4), (1, u "java/lang/Object"), (0, u "<init>"), (0, u "()V"), (35, .class_ 44), (1, u "java/util/Objects"), (60, .methodref 106 107), (0, .class_ 108), (0, .nameAndType 109 110), (0, u "jdk/internal/util/Preconditions"), (0, u "checkIndex"), (0, u "(IILjava/util/function/BiFunction;)I"), (60, u "(II)I")] 12

def k21m0 : Method := { name := "<init>", desc := "()V", sig := { parameters := [], returnType := none }, accessFlags := 2, code := none }
def k21c1 : Code := { maxStack := 3, maxLocals := 2, code := jdk_31_method_17_code, exceptionTable := #[], attributes := #[] }
def k21m1 : Method := { name := "checkIndex", desc := "(II)I", sig := { parameters := [.int, .int], returnType := some .int }, accessFlags := 9, code := some k21c1 }
/-- java/util/Objects -/
def k21 : Class := { plain "java/util/Objects" (some 0) with
  accessFlags := 49
  interfaces := #[]
  cf := some (fileOf pool21 42 #[] #[{ accessFlags := 2, nameIndex := 5, descriptorIndex := 6, attributes := #[] }, { accessFlags := 9, nameIndex := 109, descriptorIndex := 171, attributes := #[] }] 49 2 #[] #[])
  fields := #[]
  methods := #[k21m0, k21m1]
  instanceTypes := #[]
  staticTypes := #[]
  resolved := Array.replicate 184 none
  statics := none }

def pool22 : Array CpInfo := pool [(2, .class_ 4), (1, u "java/lang/Object"), (0, u "<init>"), (0, u "()V"), (17, .class_ 26), (1, u "jdk/internal/util/Preconditions"), (6, u "checkIndex"), (21, .class_ 56), (0, u "jdk/internal/util/Preconditions$4"), (57, .class_ 115), (0, u "jdk/internal/util/Preconditions$1"), (7, u "SIOOBE_FORMATTER"), (0, u "Ljava/util/function/BiFunction;"), (0, .class_ 126), (0, u "jdk/internal/util/Preconditions$2"), (3, u "AIOOBE_FORMATTER"), (0, .class_ 132), (0, u "jdk/internal/util/Preconditions$3"), (3, u "IOOBE_FORMATTER"), (41, u "(IILjava/util/function/BiFunction;)I")] 15

def k22m0 : Method := { name := "<init>", desc := "()V", sig := { parameters := [], returnType := none }, accessFlags := 1, code := none }
def k22c1 : Code := { maxStack := 3, maxLocals := 3, code := jdk_41_method_11_code, exceptionTable := #[], attributes := #[] }
def k22m1 : Method := { name := "checkIndex", desc := "(IILjava/util/function/BiFunction;)I", sig := { parameters := [.int, .int, (.object "java/util/function/BiFunction")], returnType := some .int }, accessFlags := 9, code := some k22c1 }
/-- jdk/internal/util/Preconditions -/
def k22 : Class := { plain "jdk/internal/util/Preconditions" (some 0) with
  accessFlags := 33
  interfaces := #[]
  cf := some (fileOf pool22 24 #[.nestMembers #[55, 131, 125, 114]] #[{ accessFlags := 1, nameIndex := 5, descriptorIndex := 6, attributes := #[] }, { accessFlags := 9, nameIndex := 33, descriptorIndex := 178, attributes := #[] }] 33 2 #[] #[{ accessFlags := 25, nameIndex := 123, descriptorIndex := 124, attributes := #[] }, { accessFlags := 25, nameIndex := 130, descriptorIndex := 124, attributes := #[] }, { accessFlags := 25, nameIndex := 136, descriptorIndex := 124, attributes := #[] }])
  fields := #[{ name := "SIOOBE_FORMATTER", type := (.object "java/util/function/BiFunction"), accessFlags := 25, slot := 0, constantValue := 0 }, { name := "AIOOBE_FORMATTER", type := (.object "java/util/function/BiFunction"), accessFlags := 25, slot := 1, constantValue := 0 }, { name := "IOOBE_FORMATTER", type := (.object "java/util/function/BiFunction"), accessFlags := 25, slot := 2, constantValue := 0 }]
  methods := #[k22m0, k22m1]
  instanceTypes := #[]
  staticTypes := #[(.object "java/util/function/BiFunction"), (.object "java/util/function/BiFunction"), (.object "java/util/function/BiFunction")]
  resolved := Array.replicate 194 none
  statics := none }

/-- the primitive byte -/
def k23 : Class := { plain "byte" none with kind := .primitive 'B', accessFlags := 0x411 }
/-- [B -/
def k24 : Class := { plain "[B" (some 0) with kind := .array 23 .byte, interfaces := #[3, 11], accessFlags := 1041 }

/-- the primitive double -/
def k25 : Class := { plain "double" none with kind := .primitive 'D', accessFlags := 0x411 }
/-- [D -/
def k26 : Class := { plain "[D" (some 0) with kind := .array 25 .double, interfaces := #[3, 11], accessFlags := 1041 }

/-- the primitive int -/
def k27 : Class := { plain "int" none with kind := .primitive 'I', accessFlags := 0x411 }
/-- [I -/
def k28 : Class := { plain "[I" (some 0) with kind := .array 27 .int, interfaces := #[3, 11], accessFlags := 1041 }

/-- [Ljava/lang/Integer; -/
def k29 : Class := { plain "[Ljava/lang/Integer;" (some 0) with kind := .array 19 (.object "java/lang/Integer"), interfaces := #[3, 11], accessFlags := 1041 }

/-- [Ljava/lang/Object; -/
def k30 : Class := { plain "[Ljava/lang/Object;" (some 0) with kind := .array 0 (.object "java/lang/Object"), interfaces := #[3, 11], accessFlags := 1041 }

def heap : Heap := #[{ cls := 12, slots := #[.long 0, .int 0, .ref 259, .ref 260], vm := .statics 12 },
  { cls := 20, slots := #[.int 0, .int 127, .ref 2, .null, .int 0], vm := .statics 20 },
  { cls := 29, slots := #[.ref 3, .ref 4, .ref 5, .ref 6, .ref 7, .ref 8, .ref 9, .ref 10, .ref 11, .ref 12, .ref 13, .ref 14, .ref 15, .ref 16, .ref 17, .ref 18, .ref 19, .ref 20, .ref 21, .ref 22, .ref 23, .ref 24, .ref 25, .ref 26, .ref 27, .ref 28, .ref 29, .ref 30, .ref 31, .ref 32, .ref 33, .ref 34, .ref 35, .ref 36, .ref 37, .ref 38, .ref 39, .ref 40, .ref 41, .ref 42, .ref 43, .ref 44, .ref 45, .ref 46, .ref 47, .ref 48, .ref 49, .ref 50, .ref 51, .ref 52, .ref 53, .ref 54, .ref 55, .ref 56, .ref 57, .ref 58, .ref 59, .ref 60, .ref 61, .ref 62, .ref 63, .ref 64, .ref 65, .ref 66, .ref 67, .ref 68, .ref 69, .ref 70, .ref 71, .ref 72, .ref 73, .ref 74, .ref 75, .ref 76, .ref 77, .ref 78, .ref 79, .ref 80, .ref 81, .ref 82, .ref 83, .ref 84, .ref 85, .ref 86, .ref 87, .ref 88, .ref 89, .ref 90, .ref 91, .ref 92, .ref 93, .ref 94, .ref 95, .ref 96, .ref 97, .ref 98, .ref 99, .ref 100, .ref 101, .ref 102, .ref 103, .ref 104, .ref 105, .ref 106, .ref 107, .ref 108, .ref 109, .ref 110, .ref 111, .ref 112, .ref 113, .ref 114, .ref 115, .ref 116, .ref 117, .ref 118, .ref 119, .ref 120, .ref 121, .ref 122, .ref 123, .ref 124, .ref 125, .ref 126, .ref 127, .ref 128, .ref 129, .ref 130, .ref 131, .ref 132, .ref 133, .ref 134, .ref 135, .ref 136, .ref 137, .ref 138, .ref 139, .ref 140, .ref 141, .ref 142, .ref 143, .ref 144, .ref 145, .ref 146, .ref 147, .ref 148, .ref 149, .ref 150, .ref 151, .ref 152, .ref 153, .ref 154, .ref 155, .ref 156, .ref 157, .ref 158, .ref 159, .ref 160, .ref 161, .ref 162, .ref 163, .ref 164, .ref 165, .ref 166, .ref 167, .ref 168, .ref 169, .ref 170, .ref 171, .ref 172, .ref 173, .ref 174, .ref 175, .ref 176, .ref 177, .ref 178, .ref 179, .ref 180, .ref 181, .ref 182, .ref 183, .ref 184, .ref 185, .ref 186, .ref 187, .ref 188, .ref 189, .ref 190, .ref 191, .ref 192, .ref 193, .ref 194, .ref 195, .ref 196, .ref 197, .ref 198, .ref 199, .ref 200, .ref 201, .ref 202, .ref 203, .ref 204, .ref 205, .ref 206, .ref 207, .ref 208, .ref 209, .ref 210, .ref 211, .ref 212, .ref 213, .ref 214, .ref 215, .ref 216, .ref 217, .ref 218, .ref 219, .ref 220, .ref 221, .ref 222, .ref 223, .ref 224, .ref 225, .ref 226, .ref 227, .ref 228, .ref 229, .ref 230, .ref 231, .ref 232, .ref 233, .ref 234, .ref 235, .ref 236, .ref 237, .ref 238, .ref 239, .ref 240, .ref 241, .ref 242, .ref 243, .ref 244, .ref 245, .ref 246, .ref 247, .ref 248, .ref 249, .ref 250, .ref 251, .ref 252, .ref 253, .ref 254, .ref 255, .ref 256, .ref 257, .ref 258], vm := .none },
  { cls := 19, slots := #[.int (-128)], vm := .none },
  { cls := 19, slots := #[.int (-127)], vm := .none },
  { cls := 19, slots := #[.int (-126)], vm := .none },
  { cls := 19, slots := #[.int (-125)], vm := .none },
  { cls := 19, slots := #[.int (-124)], vm := .none },
  { cls := 19, slots := #[.int (-123)], vm := .none },
  { cls := 19, slots := #[.int (-122)], vm := .none },
  { cls := 19, slots := #[.int (-121)], vm := .none },
  { cls := 19, slots := #[.int (-120)], vm := .none },
  { cls := 19, slots := #[.int (-119)], vm := .none },
  { cls := 19, slots := #[.int (-118)], vm := .none },
  { cls := 19, slots := #[.int (-117)], vm := .none },
  { cls := 19, slots := #[.int (-116)], vm := .none },
  { cls := 19, slots := #[.int (-115)], vm := .none },
  { cls := 19, slots := #[.int (-114)], vm := .none },
  { cls := 19, slots := #[.int (-113)], vm := .none },
  { cls := 19, slots := #[.int (-112)], vm := .none },
  { cls := 19, slots := #[.int (-111)], vm := .none },
  { cls := 19, slots := #[.int (-110)], vm := .none },
  { cls := 19, slots := #[.int (-109)], vm := .none },
  { cls := 19, slots := #[.int (-108)], vm := .none },
  { cls := 19, slots := #[.int (-107)], vm := .none },
  { cls := 19, slots := #[.int (-106)], vm := .none },
  { cls := 19, slots := #[.int (-105)], vm := .none },
  { cls := 19, slots := #[.int (-104)], vm := .none },
  { cls := 19, slots := #[.int (-103)], vm := .none },
  { cls := 19, slots := #[.int (-102)], vm := .none },
  { cls := 19, slots := #[.int (-101)], vm := .none },
  { cls := 19, slots := #[.int (-100)], vm := .none },
  { cls := 19, slots := #[.int (-99)], vm := .none },
  { cls := 19, slots := #[.int (-98)], vm := .none },
  { cls := 19, slots := #[.int (-97)], vm := .none },
  { cls := 19, slots := #[.int (-96)], vm := .none },
  { cls := 19, slots := #[.int (-95)], vm := .none },
  { cls := 19, slots := #[.int (-94)], vm := .none },
  { cls := 19, slots := #[.int (-93)], vm := .none },
  { cls := 19, slots := #[.int (-92)], vm := .none },
  { cls := 19, slots := #[.int (-91)], vm := .none },
  { cls := 19, slots := #[.int (-90)], vm := .none },
  { cls := 19, slots := #[.int (-89)], vm := .none },
  { cls := 19, slots := #[.int (-88)], vm := .none },
  { cls := 19, slots := #[.int (-87)], vm := .none },
  { cls := 19, slots := #[.int (-86)], vm := .none },
  { cls := 19, slots := #[.int (-85)], vm := .none },
  { cls := 19, slots := #[.int (-84)], vm := .none },
  { cls := 19, slots := #[.int (-83)], vm := .none },
  { cls := 19, slots := #[.int (-82)], vm := .none },
  { cls := 19, slots := #[.int (-81)], vm := .none },
  { cls := 19, slots := #[.int (-80)], vm := .none },
  { cls := 19, slots := #[.int (-79)], vm := .none },
  { cls := 19, slots := #[.int (-78)], vm := .none },
  { cls := 19, slots := #[.int (-77)], vm := .none },
  { cls := 19, slots := #[.int (-76)], vm := .none },
  { cls := 19, slots := #[.int (-75)], vm := .none },
  { cls := 19, slots := #[.int (-74)], vm := .none },
  { cls := 19, slots := #[.int (-73)], vm := .none },
  { cls := 19, slots := #[.int (-72)], vm := .none },
  { cls := 19, slots := #[.int (-71)], vm := .none },
  { cls := 19, slots := #[.int (-70)], vm := .none },
  { cls := 19, slots := #[.int (-69)], vm := .none },
  { cls := 19, slots := #[.int (-68)], vm := .none },
  { cls := 19, slots := #[.int (-67)], vm := .none },
  { cls := 19, slots := #[.int (-66)], vm := .none },
  { cls := 19, slots := #[.int (-65)], vm := .none },
  { cls := 19, slots := #[.int (-64)], vm := .none },
  { cls := 19, slots := #[.int (-63)], vm := .none },
  { cls := 19, slots := #[.int (-62)], vm := .none },
  { cls := 19, slots := #[.int (-61)], vm := .none },
  { cls := 19, slots := #[.int (-60)], vm := .none },
  { cls := 19, slots := #[.int (-59)], vm := .none },
  { cls := 19, slots := #[.int (-58)], vm := .none },
  { cls := 19, slots := #[.int (-57)], vm := .none },
  { cls := 19, slots := #[.int (-56)], vm := .none },
  { cls := 19, slots := #[.int (-55)], vm := .none },
  { cls := 19, slots := #[.int (-54)], vm := .none },
  { cls := 19, slots := #[.int (-53)], vm := .none },
  { cls := 19, slots := #[.int (-52)], vm := .none },
  { cls := 19, slots := #[.int (-51)], vm := .none },
  { cls := 19, slots := #[.int (-50)], vm := .none },
  { cls := 19, slots := #[.int (-49)], vm := .none },
  { cls := 19, slots := #[.int (-48)], vm := .none },
  { cls := 19, slots := #[.int (-47)], vm := .none },
  { cls := 19, slots := #[.int (-46)], vm := .none },
  { cls := 19, slots := #[.int (-45)], vm := .none },
  { cls := 19, slots := #[.int (-44)], vm := .none },
  { cls := 19, slots := #[.int (-43)], vm := .none },
  { cls := 19, slots := #[.int (-42)], vm := .none },
  { cls := 19, slots := #[.int (-41)], vm := .none },
  { cls := 19, slots := #[.int (-40)], vm := .none },
  { cls := 19, slots := #[.int (-39)], vm := .none },
  { cls := 19, slots := #[.int (-38)], vm := .none },
  { cls := 19, slots := #[.int (-37)], vm := .none },
  { cls := 19, slots := #[.int (-36)], vm := .none },
  { cls := 19, slots := #[.int (-35)], vm := .none },
  { cls := 19, slots := #[.int (-34)], vm := .none },
  { cls := 19, slots := #[.int (-33)], vm := .none },
  { cls := 19, slots := #[.int (-32)], vm := .none },
  { cls := 19, slots := #[.int (-31)], vm := .none },
  { cls := 19, slots := #[.int (-30)], vm := .none },
  { cls := 19, slots := #[.int (-29)], vm := .none },
  { cls := 19, slots := #[.int (-28)], vm := .none },
  { cls := 19, slots := #[.int (-27)], vm := .none },
  { cls := 19, slots := #[.int (-26)], vm := .none },
  { cls := 19, slots := #[.int (-25)], vm := .none },
  { cls := 19, slots := #[.int (-24)], vm := .none },
  { cls := 19, slots := #[.int (-23)], vm := .none },
  { cls := 19, slots := #[.int (-22)], vm := .none },
  { cls := 19, slots := #[.int (-21)], vm := .none },
  { cls := 19, slots := #[.int (-20)], vm := .none },
  { cls := 19, slots := #[.int (-19)], vm := .none },
  { cls := 19, slots := #[.int (-18)], vm := .none },
  { cls := 19, slots := #[.int (-17)], vm := .none },
  { cls := 19, slots := #[.int (-16)], vm := .none },
  { cls := 19, slots := #[.int (-15)], vm := .none },
  { cls := 19, slots := #[.int (-14)], vm := .none },
  { cls := 19, slots := #[.int (-13)], vm := .none },
  { cls := 19, slots := #[.int (-12)], vm := .none },
  { cls := 19, slots := #[.int (-11)], vm := .none },
  { cls := 19, slots := #[.int (-10)], vm := .none },
  { cls := 19, slots := #[.int (-9)], vm := .none },
  { cls := 19, slots := #[.int (-8)], vm := .none },
  { cls := 19, slots := #[.int (-7)], vm := .none },
  { cls := 19, slots := #[.int (-6)], vm := .none },
  { cls := 19, slots := #[.int (-5)], vm := .none },
  { cls := 19, slots := #[.int (-4)], vm := .none },
  { cls := 19, slots := #[.int (-3)], vm := .none },
  { cls := 19, slots := #[.int (-2)], vm := .none },
  { cls := 19, slots := #[.int (-1)], vm := .none },
  { cls := 19, slots := #[.int (0)], vm := .none },
  { cls := 19, slots := #[.int (1)], vm := .none },
  { cls := 19, slots := #[.int (2)], vm := .none },
  { cls := 19, slots := #[.int (3)], vm := .none },
  { cls := 19, slots := #[.int (4)], vm := .none },
  { cls := 19, slots := #[.int (5)], vm := .none },
  { cls := 19, slots := #[.int (6)], vm := .none },
  { cls := 19, slots := #[.int (7)], vm := .none },
  { cls := 19, slots := #[.int (8)], vm := .none },
  { cls := 19, slots := #[.int (9)], vm := .none },
  { cls := 19, slots := #[.int (10)], vm := .none },
  { cls := 19, slots := #[.int (11)], vm := .none },
  { cls := 19, slots := #[.int (12)], vm := .none },
  { cls := 19, slots := #[.int (13)], vm := .none },
  { cls := 19, slots := #[.int (14)], vm := .none },
  { cls := 19, slots := #[.int (15)], vm := .none },
  { cls := 19, slots := #[.int (16)], vm := .none },
  { cls := 19, slots := #[.int (17)], vm := .none },
  { cls := 19, slots := #[.int (18)], vm := .none },
  { cls := 19, slots := #[.int (19)], vm := .none },
  { cls := 19, slots := #[.int (20)], vm := .none },
  { cls := 19, slots := #[.int (21)], vm := .none },
  { cls := 19, slots := #[.int (22)], vm := .none },
  { cls := 19, slots := #[.int (23)], vm := .none },
  { cls := 19, slots := #[.int (24)], vm := .none },
  { cls := 19, slots := #[.int (25)], vm := .none },
  { cls := 19, slots := #[.int (26)], vm := .none },
  { cls := 19, slots := #[.int (27)], vm := .none },
  { cls := 19, slots := #[.int (28)], vm := .none },
  { cls := 19, slots := #[.int (29)], vm := .none },
  { cls := 19, slots := #[.int (30)], vm := .none },
  { cls := 19, slots := #[.int (31)], vm := .none },
  { cls := 19, slots := #[.int (32)], vm := .none },
  { cls := 19, slots := #[.int (33)], vm := .none },
  { cls := 19, slots := #[.int (34)], vm := .none },
  { cls := 19, slots := #[.int (35)], vm := .none },
  { cls := 19, slots := #[.int (36)], vm := .none },
  { cls := 19, slots := #[.int (37)], vm := .none },
  { cls := 19, slots := #[.int (38)], vm := .none },
  { cls := 19, slots := #[.int (39)], vm := .none },
  { cls := 19, slots := #[.int (40)], vm := .none },
  { cls := 19, slots := #[.int (41)], vm := .none },
  { cls := 19, slots := #[.int (42)], vm := .none },
  { cls := 19, slots := #[.int (43)], vm := .none },
  { cls := 19, slots := #[.int (44)], vm := .none },
  { cls := 19, slots := #[.int (45)], vm := .none },
  { cls := 19, slots := #[.int (46)], vm := .none },
  { cls := 19, slots := #[.int (47)], vm := .none },
  { cls := 19, slots := #[.int (48)], vm := .none },
  { cls := 19, slots := #[.int (49)], vm := .none },
  { cls := 19, slots := #[.int (50)], vm := .none },
  { cls := 19, slots := #[.int (51)], vm := .none },
  { cls := 19, slots := #[.int (52)], vm := .none },
  { cls := 19, slots := #[.int (53)], vm := .none },
  { cls := 19, slots := #[.int (54)], vm := .none },
  { cls := 19, slots := #[.int (55)], vm := .none },
  { cls := 19, slots := #[.int (56)], vm := .none },
  { cls := 19, slots := #[.int (57)], vm := .none },
  { cls := 19, slots := #[.int (58)], vm := .none },
  { cls := 19, slots := #[.int (59)], vm := .none },
  { cls := 19, slots := #[.int (60)], vm := .none },
  { cls := 19, slots := #[.int (61)], vm := .none },
  { cls := 19, slots := #[.int (62)], vm := .none },
  { cls := 19, slots := #[.int (63)], vm := .none },
  { cls := 19, slots := #[.int (64)], vm := .none },
  { cls := 19, slots := #[.int (65)], vm := .none },
  { cls := 19, slots := #[.int (66)], vm := .none },
  { cls := 19, slots := #[.int (67)], vm := .none },
  { cls := 19, slots := #[.int (68)], vm := .none },
  { cls := 19, slots := #[.int (69)], vm := .none },
  { cls := 19, slots := #[.int (70)], vm := .none },
  { cls := 19, slots := #[.int (71)], vm := .none },
  { cls := 19, slots := #[.int (72)], vm := .none },
  { cls := 19, slots := #[.int (73)], vm := .none },
  { cls := 19, slots := #[.int (74)], vm := .none },
  { cls := 19, slots := #[.int (75)], vm := .none },
  { cls := 19, slots := #[.int (76)], vm := .none },
  { cls := 19, slots := #[.int (77)], vm := .none },
  { cls := 19, slots := #[.int (78)], vm := .none },
  { cls := 19, slots := #[.int (79)], vm := .none },
  { cls := 19, slots := #[.int (80)], vm := .none },
  { cls := 19, slots := #[.int (81)], vm := .none },
  { cls := 19, slots := #[.int (82)], vm := .none },
  { cls := 19, slots := #[.int (83)], vm := .none },
  { cls := 19, slots := #[.int (84)], vm := .none },
  { cls := 19, slots := #[.int (85)], vm := .none },
  { cls := 19, slots := #[.int (86)], vm := .none },
  { cls := 19, slots := #[.int (87)], vm := .none },
  { cls := 19, slots := #[.int (88)], vm := .none },
  { cls := 19, slots := #[.int (89)], vm := .none },
  { cls := 19, slots := #[.int (90)], vm := .none },
  { cls := 19, slots := #[.int (91)], vm := .none },
  { cls := 19, slots := #[.int (92)], vm := .none },
  { cls := 19, slots := #[.int (93)], vm := .none },
  { cls := 19, slots := #[.int (94)], vm := .none },
  { cls := 19, slots := #[.int (95)], vm := .none },
  { cls := 19, slots := #[.int (96)], vm := .none },
  { cls := 19, slots := #[.int (97)], vm := .none },
  { cls := 19, slots := #[.int (98)], vm := .none },
  { cls := 19, slots := #[.int (99)], vm := .none },
  { cls := 19, slots := #[.int (100)], vm := .none },
  { cls := 19, slots := #[.int (101)], vm := .none },
  { cls := 19, slots := #[.int (102)], vm := .none },
  { cls := 19, slots := #[.int (103)], vm := .none },
  { cls := 19, slots := #[.int (104)], vm := .none },
  { cls := 19, slots := #[.int (105)], vm := .none },
  { cls := 19, slots := #[.int (106)], vm := .none },
  { cls := 19, slots := #[.int (107)], vm := .none },
  { cls := 19, slots := #[.int (108)], vm := .none },
  { cls := 19, slots := #[.int (109)], vm := .none },
  { cls := 19, slots := #[.int (110)], vm := .none },
  { cls := 19, slots := #[.int (111)], vm := .none },
  { cls := 19, slots := #[.int (112)], vm := .none },
  { cls := 19, slots := #[.int (113)], vm := .none },
  { cls := 19, slots := #[.int (114)], vm := .none },
  { cls := 19, slots := #[.int (115)], vm := .none },
  { cls := 19, slots := #[.int (116)], vm := .none },
  { cls := 19, slots := #[.int (117)], vm := .none },
  { cls := 19, slots := #[.int (118)], vm := .none },
  { cls := 19, slots := #[.int (119)], vm := .none },
  { cls := 19, slots := #[.int (120)], vm := .none },
  { cls := 19, slots := #[.int (121)], vm := .none },
  { cls := 19, slots := #[.int (122)], vm := .none },
  { cls := 19, slots := #[.int (123)], vm := .none },
  { cls := 19, slots := #[.int (124)], vm := .none },
  { cls := 19, slots := #[.int (125)], vm := .none },
  { cls := 19, slots := #[.int (126)], vm := .none },
  { cls := 19, slots := #[.int (127)], vm := .none },
  { cls := 30, slots := #[], vm := .none },
  { cls := 30, slots := #[], vm := .none }]
def classes : Array Class := #[k0, k1, k2, k3, k4, k5, k6, k7, k8, k9, k10, k11, k12, k13, k14, k15, k16, k17, k18, k19, k20, k21, k22, k23, k24, k25, k26, k27, k28, k29, k30]
def interned : List (Array UInt16 × Addr) := []
def slotsUsed : Nat := 521
def theMethod : MethodId := ⟨1, 1⟩
def args0 : Array Value := #[.int 3, .int 3, .int 3, .int 3, .int 3]
def aboutOver (below : List Frame) : State where
  vm := { classes := classes, interned := interned.toArray }
  heap := heap
  slotsUsed := slotsUsed
  threads := #[{ frames := .invoking theMethod args0 :: below }]
def below0 : List Frame := [.native { method := ⟨0, 0⟩, args := #[] }]
def about1 : State := aboutOver below0
def p0 : Program := .bare "" "" ""
def e0 : Env := launch0.env 0 0 0
theorem w_frames : about1.frames = Frame.invoking theMethod args0 :: below0 := rfl
set_option maxRecDepth 65536 in
theorem w_args : argsFit about1.vm theMethod args0 = true := by decide +kernel
set_option maxRecDepth 65536 in
theorem w_heap : heapFits about1 = true := by decide +kernel
set_option maxRecDepth 65536 in
theorem w_runnable : about1.curStatus? = some .runnable := by decide +kernel
set_option maxRecDepth 65536 in
theorem w_alone : about1.alone = true := by decide +kernel
set_option maxRecDepth 65536 in
theorem w_named : about1.methodNamed? x = some theMethod := by decide +kernel
set_option maxRecDepth 65536 in
theorem w_hears : about1.hears theMethod below0 = true := by decide +kernel
set_option maxRecDepth 65536 in
theorem w_ripe : about1.ripe theMethod args0 below0 = true := by decide +kernel
theorem w_running : about1.status = .running := rfl
set_option maxRecDepth 65536 in
theorem w_room : about1.hasRoom e0.platform room_1 = true :=
  launch0.hasRoom_least _ room_1 (by decide +kernel) (by decide +kernel) (by decide +kernel) (by decide +kernel) (by decide +kernel) (by decide +kernel)
theorem allAtoms_all (ts : List Jvm.Cond) (a : Array Jvm.Value) (st : Jvm.State) : (allAtoms ts).before a st = ts.all (fun c => c.before a st) := by
  induction ts with
  | nil => rfl
  | cons c t ih =>
    show (Jvm.Cond.and c (allAtoms t)).before a st = _
    rw [Jvm.Cond.before_and, ih, List.all_cons]
def words1 : List Jvm.Cond := Jvm.Cond.code x code maxLocals ret :: tables_1
/-- a 'code' word, met by the world's own term for the bytes: nothing is compared byte by byte -/
theorem code_word {y : MethodName} {bytes : ByteArray} {mx : Nat} {rt : Option FieldType} {a : Array Value} {s : State} {m : MethodId} {meth : Method} {c : Code} (h1 : s.methodNamed? y = some m) (h2 : s.vm.method? m = some meth) (h3 : meth.code = some c) (h4 : c.code = bytes)
    (h5 : (c.maxLocals == mx && c.exceptionTable.isEmpty && decide (c.maxStack ≤ mostOperands) && decide (meth.sig.returnType = rt) && !meth.locks && decide (parseMethodDescriptor y.desc = some meth.sig)) = true) : (Jvm.Cond.code y bytes mx rt).before a s = true := by
  simp only [Bool.and_eq_true, beq_iff_eq, Bool.not_eq_true', decide_eq_true_eq] at h5
  obtain ⟨⟨⟨⟨⟨g1, g2⟩, g3⟩, g4⟩, g5⟩, g6⟩ := h5
  simp [Cond.before, Cond.holds, Cond.value, h1, h2, h3, h4, g1, g2, g3, g4, g5, g6]
def isCode : Jvm.Cond → Bool
  | .code _ _ _ _ => true
  | _ => false
theorem all_split {L : List Jvm.Cond} {P : Jvm.Cond → Bool} (h1 : L.all (fun c => isCode c || P c) = true) (h2 : ∀ c ∈ L.filter isCode, P c = true) : L.all P = true := by
  refine List.all_eq_true.mpr fun c hc => ?_
  have h := List.all_eq_true.mp h1 c hc
  rcases Bool.eq_false_or_eq_true (isCode c) with hi | hi
  · exact h2 c (List.mem_filter.mpr ⟨hc, hi⟩)
  · simpa [hi] using h
set_option maxRecDepth 65536 in
theorem w_c0 : (Jvm.Cond.code x code maxLocals ret).before args0 about1 = true := code_word (m := ⟨1, 1⟩) (meth := k1m1) (c := k1c1) (by decide +kernel) rfl rfl rfl (by decide +kernel)
set_option maxRecDepth 65536 in
theorem w_c1 : (Jvm.Cond.code ({ cls := "com/example/narrow_bound/narrowbound/witness/CumulativeFunction", name := "<init>", desc := "([D[D)V" } : Jvm.MethodName) prog_37_method_1_code (7 : Nat) (Option.none : Option Jvm.ClassFile.FieldType)).before args0 about1 = true := code_word (m := ⟨2, 0⟩) (meth := k2m0) (c := k2c0) (by decide +kernel) rfl rfl rfl (by decide +kernel)
set_option maxRecDepth 65536 in
theorem w_c2 : (Jvm.Cond.code ({ cls := "java/lang/Object", name := "<init>", desc := "()V" } : Jvm.MethodName) object_method_1_code (1 : Nat) (Option.none : Option Jvm.ClassFile.FieldType)).before args0 about1 = true := code_word (m := ⟨0, 0⟩) (meth := k0m0) (c := k0c0) (by decide +kernel) rfl rfl rfl (by decide +kernel)
set_option maxRecDepth 65536 in
theorem w_c3 : (Jvm.Cond.code ({ cls := "java/util/ArrayList", name := "<init>", desc := "()V" } : Jvm.MethodName) jdk_38_method_2_code (1 : Nat) (Option.none : Option Jvm.ClassFile.FieldType)).before args0 about1 = true := code_word (m := ⟨12, 0⟩) (meth := k12m0) (c := k12c0) (by decide +kernel) rfl rfl rfl (by decide +kernel)
set_option maxRecDepth 65536 in
theorem w_c4 : (Jvm.Cond.code ({ cls := "java/util/AbstractList", name := "<init>", desc := "()V" } : Jvm.MethodName) jdk_39_method_1_code (1 : Nat) (Option.none : Option Jvm.ClassFile.FieldType)).before args0 about1 = true := code_word (m := ⟨9, 0⟩) (meth := k9m0) (c := k9c0) (by decide +kernel) rfl rfl rfl (by decide +kernel)
set_option maxRecDepth 65536 in
theorem w_c5 : (Jvm.Cond.code ({ cls := "java/util/AbstractCollection", name := "<init>", desc := "()V" } : Jvm.MethodName) jdk_22_method_1_code (1 : Nat) (Option.none : Option Jvm.ClassFile.FieldType)).before args0 about1 = true := code_word (m := ⟨6, 0⟩) (meth := k6m0) (c := k6c0) (by decide +kernel) rfl rfl rfl (by decide +kernel)
set_option maxRecDepth 65536 in
theorem w_c6 : (Jvm.Cond.code ({ cls := "java/util/ArrayList", name := "size", desc := "()I" } : Jvm.MethodName) jdk_38_method_8_code (1 : Nat) (Option.some Jvm.ClassFile.FieldType.int)).before args0 about1 = true := code_word (m := ⟨12, 3⟩) (meth := k12m3) (c := k12c3) (by decide +kernel) rfl rfl rfl (by decide +kernel)
set_option maxRecDepth 65536 in
theorem w_c7 : (Jvm.Cond.code ({ cls := "com/example/narrow_bound/narrowbound/witness/CumulativeFunction", name := "levels", desc := "()[D" } : Jvm.MethodName) prog_37_method_10_code (3 : Nat) (Option.some (Jvm.ClassFile.FieldType.array Jvm.ClassFile.FieldType.double))).before args0 about1 = true := code_word (m := ⟨2, 1⟩) (meth := k2m1) (c := k2c1) (by decide +kernel) rfl rfl rfl (by decide +kernel)
set_option maxRecDepth 65536 in
theorem w_c8 : (Jvm.Cond.code ({ cls := "com/example/narrow_bound/narrowbound/witness/CumulativeFunctionLevelsPinLaw", name := "same", desc := "([D[DII)Z" } : Jvm.MethodName) method_3_code (4 : Nat) (Option.some Jvm.ClassFile.FieldType.boolean)).before args0 about1 = true := code_word (m := ⟨1, 2⟩) (meth := k1m2) (c := k1c2) (by decide +kernel) rfl rfl rfl (by decide +kernel)
set_option maxRecDepth 65536 in
theorem w_c9 : (Jvm.Cond.code ({ cls := "java/lang/Double", name := "isFinite", desc := "(D)Z" } : Jvm.MethodName) jdk_117_method_8_code (2 : Nat) (Option.some Jvm.ClassFile.FieldType.boolean)).before args0 about1 = true := code_word (m := ⟨17, 0⟩) (meth := k17m0) (c := k17c0) (by decide +kernel) rfl rfl rfl (by decide +kernel)
set_option maxRecDepth 65536 in
theorem w_c10 : (Jvm.Cond.code ({ cls := "java/lang/Math", name := "abs", desc := "(D)D" } : Jvm.MethodName) jdk_29_method_64_code (2 : Nat) (Option.some Jvm.ClassFile.FieldType.double)).before args0 about1 = true := code_word (m := ⟨18, 1⟩) (meth := k18m1) (c := k18c1) (by decide +kernel) rfl rfl rfl (by decide +kernel)
set_option maxRecDepth 65536 in
theorem w_c11 : (Jvm.Cond.code ({ cls := "java/lang/Integer", name := "valueOf", desc := "(I)Ljava/lang/Integer;" } : Jvm.MethodName) jdk_33_method_22_code (1 : Nat) (Option.some (Jvm.ClassFile.FieldType.object "java/lang/Integer"))).before args0 about1 = true := code_word (m := ⟨19, 0⟩) (meth := k19m0) (c := k19c0) (by decide +kernel) rfl rfl rfl (by decide +kernel)
set_option maxRecDepth 65536 in
theorem w_c12 : (Jvm.Cond.code ({ cls := "java/util/ArrayList", name := "add", desc := "(Ljava/lang/Object;)Z" } : Jvm.MethodName) jdk_38_method_25_code (2 : Nat) (Option.some Jvm.ClassFile.FieldType.boolean)).before args0 about1 = true := code_word (m := ⟨12, 7⟩) (meth := k12m7) (c := k12c7) (by decide +kernel) rfl rfl rfl (by decide +kernel)
set_option maxRecDepth 65536 in
theorem w_c13 : (Jvm.Cond.code ({ cls := "java/util/ArrayList", name := "add", desc := "(Ljava/lang/Object;[Ljava/lang/Object;I)V" } : Jvm.MethodName) jdk_38_method_24_code (4 : Nat) (Option.none : Option Jvm.ClassFile.FieldType)).before args0 about1 = true := code_word (m := ⟨12, 6⟩) (meth := k12m6) (c := k12c6) (by decide +kernel) rfl rfl rfl (by decide +kernel)
set_option maxRecDepth 65536 in
theorem w_c14 : (Jvm.Cond.code ({ cls := "java/util/ArrayList", name := "grow", desc := "()[Ljava/lang/Object;" } : Jvm.MethodName) jdk_38_method_7_code (1 : Nat) (Option.some (Jvm.ClassFile.FieldType.array (Jvm.ClassFile.FieldType.object "java/lang/Object")))).before args0 about1 = true := code_word (m := ⟨12, 2⟩) (meth := k12m2) (c := k12c2) (by decide +kernel) rfl rfl rfl (by decide +kernel)
set_option maxRecDepth 65536 in
theorem w_c15 : (Jvm.Cond.code ({ cls := "java/util/ArrayList", name := "grow", desc := "(I)[Ljava/lang/Object;" } : Jvm.MethodName) jdk_38_method_6_code (4 : Nat) (Option.some (Jvm.ClassFile.FieldType.array (Jvm.ClassFile.FieldType.object "java/lang/Object")))).before args0 about1 = true := code_word (m := ⟨12, 1⟩) (meth := k12m1) (c := k12c1) (by decide +kernel) rfl rfl rfl (by decide +kernel)
set_option maxRecDepth 65536 in
theorem w_c16 : (Jvm.Cond.code ({ cls := "java/lang/Math", name := "max", desc := "(II)I" } : Jvm.MethodName) jdk_29_method_65_code (2 : Nat) (Option.some Jvm.ClassFile.FieldType.int)).before args0 about1 = true := code_word (m := ⟨18, 2⟩) (meth := k18m2) (c := k18c2) (by decide +kernel) rfl rfl rfl (by decide +kernel)
set_option maxRecDepth 65536 in
theorem w_c17 : (Jvm.Cond.code ({ cls := "java/util/ArrayList", name := "get", desc := "(I)Ljava/lang/Object;" } : Jvm.MethodName) jdk_38_method_20_code (2 : Nat) (Option.some (Jvm.ClassFile.FieldType.object "java/lang/Object"))).before args0 about1 = true := code_word (m := ⟨12, 5⟩) (meth := k12m5) (c := k12c5) (by decide +kernel) rfl rfl rfl (by decide +kernel)
set_option maxRecDepth 65536 in
theorem w_c18 : (Jvm.Cond.code ({ cls := "java/util/Objects", name := "checkIndex", desc := "(II)I" } : Jvm.MethodName) jdk_31_method_17_code (2 : Nat) (Option.some Jvm.ClassFile.FieldType.int)).before args0 about1 = true := code_word (m := ⟨21, 1⟩) (meth := k21m1) (c := k21c1) (by decide +kernel) rfl rfl rfl (by decide +kernel)
set_option maxRecDepth 65536 in
theorem w_c19 : (Jvm.Cond.code ({ cls := "jdk/internal/util/Preconditions", name := "checkIndex", desc := "(IILjava/util/function/BiFunction;)I" } : Jvm.MethodName) jdk_41_method_11_code (3 : Nat) (Option.some Jvm.ClassFile.FieldType.int)).before args0 about1 = true := code_word (m := ⟨22, 1⟩) (meth := k22m1) (c := k22c1) (by decide +kernel) rfl rfl rfl (by decide +kernel)
set_option maxRecDepth 65536 in
theorem w_c20 : (Jvm.Cond.code ({ cls := "java/util/ArrayList", name := "elementData", desc := "(I)Ljava/lang/Object;" } : Jvm.MethodName) jdk_38_method_18_code (2 : Nat) (Option.some (Jvm.ClassFile.FieldType.object "java/lang/Object"))).before args0 about1 = true := code_word (m := ⟨12, 4⟩) (meth := k12m4) (c := k12c4) (by decide +kernel) rfl rfl rfl (by decide +kernel)
set_option maxRecDepth 65536 in
theorem w_c21 : (Jvm.Cond.code ({ cls := "java/lang/Integer", name := "intValue", desc := "()I" } : Jvm.MethodName) jdk_33_method_27_code (1 : Nat) (Option.some Jvm.ClassFile.FieldType.int)).before args0 about1 = true := code_word (m := ⟨19, 1⟩) (meth := k19m1) (c := k19c1) (by decide +kernel) rfl rfl rfl (by decide +kernel)
set_option maxRecDepth 65536 in
theorem w_c22 : (Jvm.Cond.code ({ cls := "com/example/narrow_bound/narrowbound/witness/CumulativeFunction", name := "runValue", desc := "(I)D" } : Jvm.MethodName) prog_37_method_12_code (2 : Nat) (Option.some Jvm.ClassFile.FieldType.double)).before args0 about1 = true := code_word (m := ⟨2, 2⟩) (meth := k2m2) (c := k2c2) (by decide +kernel) rfl rfl rfl (by decide +kernel)
def codes1 : List Jvm.Cond := [Jvm.Cond.code x code maxLocals ret, Jvm.Cond.code ({ cls := "com/example/narrow_bound/narrowbound/witness/CumulativeFunction", name := "<init>", desc := "([D[D)V" } : Jvm.MethodName) prog_37_method_1_code (7 : Nat) (Option.none : Option Jvm.ClassFile.FieldType), Jvm.Cond.code ({ cls := "java/lang/Object", name := "<init>", desc := "()V" } : Jvm.MethodName) object_method_1_code (1 : Nat) (Option.none : Option Jvm.ClassFile.FieldType), Jvm.Cond.code ({ cls := "java/util/ArrayList", name := "<init>", desc := "()V" } : Jvm.MethodName) jdk_38_method_2_code (1 : Nat) (Option.none : Option Jvm.ClassFile.FieldType), Jvm.Cond.code ({ cls := "java/util/AbstractList", name := "<init>", desc := "()V" } : Jvm.MethodName) jdk_39_method_1_code (1 : Nat) (Option.none : Option Jvm.ClassFile.FieldType), Jvm.Cond.code ({ cls := "java/util/AbstractCollection", name := "<init>", desc := "()V" } : Jvm.MethodName) jdk_22_method_1_code (1 : Nat) (Option.none : Option Jvm.ClassFile.FieldType), Jvm.Cond.code ({ cls := "java/util/ArrayList", name := "size", desc := "()I" } : Jvm.MethodName) jdk_38_method_8_code (1 : Nat) (Option.some Jvm.ClassFile.FieldType.int), Jvm.Cond.code ({ cls := "com/example/narrow_bound/narrowbound/witness/CumulativeFunction", name := "levels", desc := "()[D" } : Jvm.MethodName) prog_37_method_10_code (3 : Nat) (Option.some (Jvm.ClassFile.FieldType.array Jvm.ClassFile.FieldType.double)), Jvm.Cond.code ({ cls := "com/example/narrow_bound/narrowbound/witness/CumulativeFunctionLevelsPinLaw", name := "same", desc := "([D[DII)Z" } : Jvm.MethodName) method_3_code (4 : Nat) (Option.some Jvm.ClassFile.FieldType.boolean), Jvm.Cond.code ({ cls := "java/lang/Double", name := "isFinite", desc := "(D)Z" } : Jvm.MethodName) jdk_117_method_8_code (2 : Nat) (Option.some Jvm.ClassFile.FieldType.boolean), Jvm.Cond.code ({ cls := "java/lang/Math", name := "abs", desc := "(D)D" } : Jvm.MethodName) jdk_29_method_64_code (2 : Nat) (Option.some Jvm.ClassFile.FieldType.double), Jvm.Cond.code ({ cls := "java/lang/Integer", name := "valueOf", desc := "(I)Ljava/lang/Integer;" } : Jvm.MethodName) jdk_33_method_22_code (1 : Nat) (Option.some (Jvm.ClassFile.FieldType.object "java/lang/Integer")), Jvm.Cond.code ({ cls := "java/util/ArrayList", name := "add", desc := "(Ljava/lang/Object;)Z" } : Jvm.MethodName) jdk_38_method_25_code (2 : Nat) (Option.some Jvm.ClassFile.FieldType.boolean), Jvm.Cond.code ({ cls := "java/util/ArrayList", name := "add", desc := "(Ljava/lang/Object;[Ljava/lang/Object;I)V" } : Jvm.MethodName) jdk_38_method_24_code (4 : Nat) (Option.none : Option Jvm.ClassFile.FieldType), Jvm.Cond.code ({ cls := "java/util/ArrayList", name := "grow", desc := "()[Ljava/lang/Object;" } : Jvm.MethodName) jdk_38_method_7_code (1 : Nat) (Option.some (Jvm.ClassFile.FieldType.array (Jvm.ClassFile.FieldType.object "java/lang/Object"))), Jvm.Cond.code ({ cls := "java/util/ArrayList", name := "grow", desc := "(I)[Ljava/lang/Object;" } : Jvm.MethodName) jdk_38_method_6_code (4 : Nat) (Option.some (Jvm.ClassFile.FieldType.array (Jvm.ClassFile.FieldType.object "java/lang/Object"))), Jvm.Cond.code ({ cls := "java/lang/Math", name := "max", desc := "(II)I" } : Jvm.MethodName) jdk_29_method_65_code (2 : Nat) (Option.some Jvm.ClassFile.FieldType.int), Jvm.Cond.code ({ cls := "java/util/ArrayList", name := "get", desc := "(I)Ljava/lang/Object;" } : Jvm.MethodName) jdk_38_method_20_code (2 : Nat) (Option.some (Jvm.ClassFile.FieldType.object "java/lang/Object")), Jvm.Cond.code ({ cls := "java/util/Objects", name := "checkIndex", desc := "(II)I" } : Jvm.MethodName) jdk_31_method_17_code (2 : Nat) (Option.some Jvm.ClassFile.FieldType.int), Jvm.Cond.code ({ cls := "jdk/internal/util/Preconditions", name := "checkIndex", desc := "(IILjava/util/function/BiFunction;)I" } : Jvm.MethodName) jdk_41_method_11_code (3 : Nat) (Option.some Jvm.ClassFile.FieldType.int), Jvm.Cond.code ({ cls := "java/util/ArrayList", name := "elementData", desc := "(I)Ljava/lang/Object;" } : Jvm.MethodName) jdk_38_method_18_code (2 : Nat) (Option.some (Jvm.ClassFile.FieldType.object "java/lang/Object")), Jvm.Cond.code ({ cls := "java/lang/Integer", name := "intValue", desc := "()I" } : Jvm.MethodName) jdk_33_method_27_code (1 : Nat) (Option.some Jvm.ClassFile.FieldType.int), Jvm.Cond.code ({ cls := "com/example/narrow_bound/narrowbound/witness/CumulativeFunction", name := "runValue", desc := "(I)D" } : Jvm.MethodName) prog_37_method_12_code (2 : Nat) (Option.some Jvm.ClassFile.FieldType.double)]
set_option maxRecDepth 65536 in
theorem codes_eq : words1.filter isCode = codes1 := rfl
theorem w_codes : ∀ c ∈ words1.filter isCode, c.before args0 about1 = true := by
  rw [codes_eq]
  intro c hc
  simp only [codes1, List.mem_cons, List.not_mem_nil, or_false] at hc
  rcases hc with rfl | rfl | rfl | rfl | rfl | rfl | rfl | rfl | rfl | rfl | rfl | rfl | rfl | rfl | rfl | rfl | rfl | rfl | rfl | rfl | rfl | rfl | rfl
  · exact w_c0
  · exact w_c1
  · exact w_c2
  · exact w_c3
  · exact w_c4
  · exact w_c5
  · exact w_c6
  · exact w_c7
  · exact w_c8
  · exact w_c9
  · exact w_c10
  · exact w_c11
  · exact w_c12
  · exact w_c13
  · exact w_c14
  · exact w_c15
  · exact w_c16
  · exact w_c17
  · exact w_c18
  · exact w_c19
  · exact w_c20
  · exact w_c21
  · exact w_c22
set_option maxRecDepth 65536 in
theorem w_t1 : (words1.take 24).all (fun c => isCode c || c.before args0 about1) = true := by decide +kernel
set_option maxRecDepth 65536 in
theorem w_t2 : ((words1.drop 24).take 24).all (fun c => isCode c || c.before args0 about1) = true := by decide +kernel
set_option maxRecDepth 65536 in
theorem w_t3 : (((words1.drop 24).drop 24).take 24).all (fun c => isCode c || c.before args0 about1) = true := by decide +kernel
set_option maxRecDepth 65536 in
theorem w_t4 : ((((words1.drop 24).drop 24).drop 24).take 24).all (fun c => isCode c || c.before args0 about1) = true := by decide +kernel
set_option maxRecDepth 65536 in
theorem w_t5 : (((((words1.drop 24).drop 24).drop 24).drop 24).take 24).all (fun c => isCode c || c.before args0 about1) = true := by decide +kernel
set_option maxRecDepth 65536 in
theorem w_t6 : ((((((words1.drop 24).drop 24).drop 24).drop 24).drop 24).take 24).all (fun c => isCode c || c.before args0 about1) = true := by decide +kernel
set_option maxRecDepth 65536 in
theorem w_t7 : ((((((words1.drop 24).drop 24).drop 24).drop 24).drop 24).drop 24).all (fun c => isCode c || c.before args0 about1) = true := by decide +kernel
theorem w_tables : (allAtoms (Jvm.Cond.code x code maxLocals ret :: tables_1)).before args0 about1 = true := by
  rw [allAtoms_all]
  show words1.all (fun c => c.before args0 about1) = true
  refine all_split ?_ w_codes
  rw [← List.take_append_drop 24 words1, List.all_append, w_t1, ← List.take_append_drop 24 (words1.drop 24), List.all_append, w_t2, ← List.take_append_drop 24 ((words1.drop 24).drop 24), List.all_append, w_t3, ← List.take_append_drop 24 (((words1.drop 24).drop 24).drop 24), List.all_append, w_t4, ← List.take_append_drop 24 ((((words1.drop 24).drop 24).drop 24).drop 24), List.all_append, w_t5, ← List.take_append_drop 24 (((((words1.drop 24).drop 24).drop 24).drop 24).drop 24), List.all_append, w_t6, w_t7]
  rfl
set_option maxRecDepth 65536 in
theorem w_rest : rest_1_c.before args0 about1 = true := by decide +kernel
set_option maxRecDepth 65536 in
theorem w_case : (Jvm.Cond.and given_1 narrow_1).before args0 about1 = true := by decide +kernel
theorem w_applies : (headSpec (Jvm.Cond.code x code maxLocals ret :: tables_1) room_1).applies x e0.platform about1 = true :=
  (Spec.applies_iff w_frames).mpr ⟨w_running, w_runnable, w_alone, w_named, w_hears, w_ripe, w_room, w_tables⟩
theorem atStart : AtStart classFile x code maxLocals ret World_1 tables_1 room_1 Calls_1 rest_1 Pre_1 launch0 p0 e0 about1 theMethod args0 below0 :=
  ⟨lists_1, trivial, launch0.admits_env _ _ _, launch0.least_env, fairChoices_fair.cas, fairChoices_fair.clock, w_frames, w_args, w_heap, w_applies, trivial, w_rest, w_case⟩
end start1
theorem witness_1 : WitnessClaimed_1 := ⟨start1.p0, start1.e0, start1.about1, start1.theMethod, start1.args0, start1.below0, start1.atStart⟩
end Jvm.Pilot.@@N@@
