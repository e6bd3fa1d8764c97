import JvmDerived
import JvmDerived.Pilot.@@N@@Statement
import JvmDerived.Pilot.@@N@@Code
set_option linter.unusedVariables false
set_option linter.unusedSimpArgs false
namespace Jvm.RoadKit
open Sem ClassFile Op Lib Jvm.Stand Jvm.Free Jvm.LawKit
section New
variable {p : Program} {l : Launch} {e : Env} {R : Room} {s : State} {m : MethodId} {args : Array Value} {below : List Frame} {meth : Method} {c : Code} {T : State} {locs : List Loc} {cells slots : Nat}
theorem retI (X : Stand p l e R s m args below meth c T locs cells slots) (hx : p.tables.exec = Jvm.exec) {pc : Nat} {Ls : Array Slot} {z : Int32} {rest : List Value} (hret : meth.sig.returnType = some .int) (hd : decode c.code pc = .ok (.ireturn, 1)) {fs : List Frame}
    (hl : ∀ (f : JFrame) (acts : List Action), f.method = m → f.locked = none → f.entered = [] → (doReturn e (T.setTop f) acts (some (.int z))).1 = T.setFrames fs) : Steps p.tables e below (T.setTop (mkF m pc Ls (.int z :: rest))) (T.setFrames fs) := by
  have hm' : T.vm.method? m = some meth := X.method'
  have hn : narrow .int (.int z) = .int z := rfl
  show Steps p.tables e below (T.setTop { method := m, pc := pc, locals := Ls, stack := _ :: rest, locked := none }) _
  jvm_step X.here [X.here.top, hx, hd, hm', hret, hn]
  first | (intro acts; rw [hl _ acts rfl rfl rfl]) | rw [hl _ _ rfl rfl rfl]
  exact Steps.refl _
end New
theorem own_sta_keep {Z : State} {h h' : Heap} {C n d : String} {v : Value} {ws : List Addr} (F : Sta Z h C n d v) (K : Keep h h' ws) (q : ∀ x ∈ ws, ∀ c : Cell, h[x]? = some c → c.vm.isStatics = false) : Sta Z h' C n d v := by
  obtain ⟨cf, i, k, f, st, cell, h1, h2, h3, h4, h5, h6, h7⟩ := F
  exact ⟨cf, i, k, f, st, cell, h1, h2, h3, h4, K.2.1 st cell h5 (fun hm => by rw [q st hm cell h5] at h6; cases h6), h6, h7⟩
theorem own_plain_Exa {Z : State} {h : Heap} {a : Addr} {C : String} (F : Exa Z h a C) : ∀ c : Cell, h[a]? = some c → c.vm.isStatics = false := fun c hc => by
  obtain ⟨cell, _, h1, -, -, h4, -⟩ := F
  cases h1.symm.trans hc; exact h4
theorem own_plain_Arv {Z : State} {h : Heap} {a : Addr} {k : ClassId} {ty : FieldType} {n : Int32} {vs : List Value} {d : Value} (F : Arv Z h a k ty n vs d) : ∀ c : Cell, h[a]? = some c → c.vm.isStatics = false := fun c hc => by
  obtain ⟨cell, A, -⟩ := F
  cases A.1.symm.trans hc; exact A.plain
end Jvm.RoadKit
namespace Jvm.Pilot.@@N@@
open Jvm Jvm.ClassFile Sem Op Lib Jvm.Free Jvm.Stand Jvm.LawKit Jvm.RoadKit Bundle Jvm.Pilot.@@N@@.Jvm.D
def bI (P : Prop) [Decidable P] : Int32 := if P then 1 else 0
theorem bI_eq {P Q : Prop} [Decidable P] [Decidable Q] : bI P = bI Q ↔ (P ↔ Q) := by unfold bI; by_cases h : P <;> by_cases g : Q <;> simp [h, g]
theorem bI_eq1 {P : Prop} [Decidable P] : bI P = 1 ↔ P := by unfold bI; by_cases h : P <;> simp [h]
theorem bI_1eq {P : Prop} [Decidable P] : 1 = bI P ↔ P := by unfold bI; by_cases h : P <;> simp [h]
theorem bI_eq0 {P : Prop} [Decidable P] : bI P = 0 ↔ (P ↔ False) := by unfold bI; by_cases h : P <;> simp [h]
theorem bI_0eq {P : Prop} [Decidable P] : 0 = bI P ↔ (False ↔ P) := by unfold bI; by_cases h : P <;> simp [h]
theorem bI_t {P : Prop} [Decidable P] (h : P) : bI P = 1 := if_pos h
theorem bI_f {P : Prop} [Decidable P] (h : ¬ P) : bI P = 0 := if_neg h
theorem bI_iff {P Q : Prop} [Decidable P] [Decidable Q] (h : P ↔ Q) : bI P = bI Q := bI_eq.mpr h
theorem imp_iff_h {P Q : Prop} (h : P) : (P → Q) ↔ Q := ⟨fun f => f h, fun q _ => q⟩
theorem sel_t {P A B : Prop} (h : P) : ((P ∧ A) ∨ (¬ P ∧ B)) ↔ A := ⟨fun q => q.elim (fun z => z.2) (fun z => absurd h z.1), fun a => Or.inl ⟨h, a⟩⟩
theorem sel_f {P A B : Prop} (h : ¬ P) : ((P ∧ A) ∨ (¬ P ∧ B)) ↔ B := ⟨fun q => q.elim (fun z => absurd z.1 h) (fun z => z.2), fun b => Or.inr ⟨h, b⟩⟩
theorem bB_eq_t {P : Prop} [Decidable P] (h : ¬ P) : ifCond.holds .eq (bI P) = true := by rw [bI_f h]; rfl
theorem bB_eq_f {P : Prop} [Decidable P] (h : P) : ifCond.holds .eq (bI P) = false := by rw [bI_t h]; rfl
theorem bB_ne_t {P : Prop} [Decidable P] (h : P) : ifCond.holds .ne (bI P) = true := by rw [bI_t h]; rfl
theorem bB_ne_f {P : Prop} [Decidable P] (h : ¬ P) : ifCond.holds .ne (bI P) = false := by rw [bI_f h]; rfl
theorem bI_nar {P : Prop} [Decidable P] : nar .boolean (bI P) = bI P := by by_cases h : P <;> simp only [bI, h, if_true, if_false] <;> rfl
theorem bI_ret {P : Prop} [Decidable P] : (some (.int (nar .boolean (bI P))) : Option Value) = some (.int (bI P)) := by rw [bI_nar]
theorem bI_one {P : Prop} [Decidable P] (h : P) : (some (.int (nar .boolean (bI P))) : Option Value) = some (.int 1) := by rw [bI_nar, bI_t h]
theorem own_ite_ref {P : Prop} [Decidable P] {x y : Value} (h : x.isRef = true) (g : y.isRef = true) : (if P then x else y).isRef = true := by by_cases q : P <;> simp [q, h, g]
theorem own_fits_ref {t : FieldType} {x : Value} (ht : t.isReference = true) (h : x.isRef = true) : fits t x = true := by cases t <;> first | (cases ht; done) | (cases x <;> simp_all [fits, Value.isRef])
theorem own_eqI {args : Array Value} {s : State} {t : Term} {k : Int32} (h : (Cond.eq t (.int k)).value args s none s [] = some true) : t.eval args s none [] s = some (.int k) := by
  simp only [Cond.value, Term.eval] at h
  cases ht : t.eval args s none [] s with
  | none => simp [ht] at h
  | some v => cases v <;> simp [ht] at h ⊢; exact h
theorem own_eqR {args : Array Value} {s : State} {t u : Term} {v : Value} (hu : u.eval args s none [] s = some v) (hv : v.isRef = true) (h : (Cond.eq t u).value args s none s [] = some true) : t.eval args s none [] s = some v := by
  cases ht : t.eval args s none [] s with
  | none => simp [Cond.value, ht, hu] at h
  | some x =>
    rcases ref_cases hv with rfl | ⟨a, rfl⟩ <;> cases x <;> simp [Cond.value, ht, hu] at h ⊢ <;> exact h
theorem own_len {args : Array Value} {s : State} {t : Term} {a : Addr} {c : Cell} {ty : FieldType} {k : Int32} (ev : t.eval args s none [] s = some (.ref a)) (A : Arr s s.heap a c ty) (h : (Term.length t).eval args s none [] s = some (.int k)) : c.slots.size < 2 ^ 31 ∧ c.slots.size.toInt32 = k := by
  have ha := A.fin (Vm.Alike.refl _)
  by_cases q : c.slots.size < 2 ^ 31
  · rw [len_f ev ha q] at h; exact ⟨q, by injection h with h; injection h⟩
  · simp [Term.eval, ev, ha, q] at h


def own_k (p : Int32) : Int32 := ((p &&& (2147483647 : Int32)) % (19 : Int32))
theorem own_ki (p : Int32) : 0 ≤ (own_k p).toInt ∧ (own_k p).toInt < 19 := by
  have h := c_and p (2147483647 : Int32) (by decide)
  have g := (c_irem (p &&& (2147483647 : Int32)) (19 : Int32) 19 rfl).1 h.1
  unfold own_k; omega
theorem own_kr (p : Int32) : ¬ own_k p < 0 ∧ own_k p < (19 : Int32) := by
  have h := own_ki p
  have z0 : (0 : Int32).toInt = 0 := rfl
  have z1 : (19 : Int32).toInt = 19 := rfl
  rw [Int32.lt_iff_toInt_lt, Int32.lt_iff_toInt_lt, z0, z1]; omega
theorem own_k18 (p : Int32) (h0 : ¬ own_k p = (0 : Int32)) (h1 : ¬ own_k p = (1 : Int32)) (h2 : ¬ own_k p = (2 : Int32)) (h3 : ¬ own_k p = (3 : Int32)) (h4 : ¬ own_k p = (4 : Int32)) (h5 : ¬ own_k p = (5 : Int32)) (h6 : ¬ own_k p = (6 : Int32)) (h7 : ¬ own_k p = (7 : Int32)) (h8 : ¬ own_k p = (8 : Int32)) (h9 : ¬ own_k p = (9 : Int32)) (h10 : ¬ own_k p = (10 : Int32)) (h11 : ¬ own_k p = (11 : Int32)) (h12 : ¬ own_k p = (12 : Int32)) (h13 : ¬ own_k p = (13 : Int32)) (h14 : ¬ own_k p = (14 : Int32)) (h15 : ¬ own_k p = (15 : Int32)) (h16 : ¬ own_k p = (16 : Int32)) (h17 : ¬ own_k p = (17 : Int32)) : own_k p = (18 : Int32) := by
  have h := own_ki p
  refine Int32.toInt_inj.mp ?_
  have z : (18 : Int32).toInt = 18 := rfl
  rw [z]
  have k0 : (own_k p).toInt ≠ 0 := fun q => h0 (Int32.toInt_inj.mp q)
  have k1 : (own_k p).toInt ≠ 1 := fun q => h1 (Int32.toInt_inj.mp q)
  have k2 : (own_k p).toInt ≠ 2 := fun q => h2 (Int32.toInt_inj.mp q)
  have k3 : (own_k p).toInt ≠ 3 := fun q => h3 (Int32.toInt_inj.mp q)
  have k4 : (own_k p).toInt ≠ 4 := fun q => h4 (Int32.toInt_inj.mp q)
  have k5 : (own_k p).toInt ≠ 5 := fun q => h5 (Int32.toInt_inj.mp q)
  have k6 : (own_k p).toInt ≠ 6 := fun q => h6 (Int32.toInt_inj.mp q)
  have k7 : (own_k p).toInt ≠ 7 := fun q => h7 (Int32.toInt_inj.mp q)
  have k8 : (own_k p).toInt ≠ 8 := fun q => h8 (Int32.toInt_inj.mp q)
  have k9 : (own_k p).toInt ≠ 9 := fun q => h9 (Int32.toInt_inj.mp q)
  have k10 : (own_k p).toInt ≠ 10 := fun q => h10 (Int32.toInt_inj.mp q)
  have k11 : (own_k p).toInt ≠ 11 := fun q => h11 (Int32.toInt_inj.mp q)
  have k12 : (own_k p).toInt ≠ 12 := fun q => h12 (Int32.toInt_inj.mp q)
  have k13 : (own_k p).toInt ≠ 13 := fun q => h13 (Int32.toInt_inj.mp q)
  have k14 : (own_k p).toInt ≠ 14 := fun q => h14 (Int32.toInt_inj.mp q)
  have k15 : (own_k p).toInt ≠ 15 := fun q => h15 (Int32.toInt_inj.mp q)
  have k16 : (own_k p).toInt ≠ 16 := fun q => h16 (Int32.toInt_inj.mp q)
  have k17 : (own_k p).toInt ≠ 17 := fun q => h17 (Int32.toInt_inj.mp q)
  omega
def own_all (M : Nat → Int32 → Prop) : Prop := ∀ j : Int32, (¬ j < 0 ∧ j < (19 : Int32)) → M j.toNatClampNeg j
theorem own_all_of {M : Nat → Int32 → Prop} (h0 : M 0 (0 : Int32)) (h1 : M 1 (1 : Int32)) (h2 : M 2 (2 : Int32)) (h3 : M 3 (3 : Int32)) (h4 : M 4 (4 : Int32)) (h5 : M 5 (5 : Int32)) (h6 : M 6 (6 : Int32)) (h7 : M 7 (7 : Int32)) (h8 : M 8 (8 : Int32)) (h9 : M 9 (9 : Int32)) (h10 : M 10 (10 : Int32)) (h11 : M 11 (11 : Int32)) (h12 : M 12 (12 : Int32)) (h13 : M 13 (13 : Int32)) (h14 : M 14 (14 : Int32)) (h15 : M 15 (15 : Int32)) (h16 : M 16 (16 : Int32)) (h17 : M 17 (17 : Int32)) (h18 : M 18 (18 : Int32)) : own_all M := by
  intro j hj
  have z0 : (0 : Int32).toInt = 0 := rfl
  have z1 : (19 : Int32).toInt = 19 := rfl
  rw [Int32.lt_iff_toInt_lt, Int32.lt_iff_toInt_lt, z0, z1] at hj
  by_cases q0 : j.toInt = 0
  · obtain rfl : j = (0 : Int32) := Int32.toInt_inj.mp q0
    exact h0
  by_cases q1 : j.toInt = 1
  · obtain rfl : j = (1 : Int32) := Int32.toInt_inj.mp q1
    exact h1
  by_cases q2 : j.toInt = 2
  · obtain rfl : j = (2 : Int32) := Int32.toInt_inj.mp q2
    exact h2
  by_cases q3 : j.toInt = 3
  · obtain rfl : j = (3 : Int32) := Int32.toInt_inj.mp q3
    exact h3
  by_cases q4 : j.toInt = 4
  · obtain rfl : j = (4 : Int32) := Int32.toInt_inj.mp q4
    exact h4
  by_cases q5 : j.toInt = 5
  · obtain rfl : j = (5 : Int32) := Int32.toInt_inj.mp q5
    exact h5
  by_cases q6 : j.toInt = 6
  · obtain rfl : j = (6 : Int32) := Int32.toInt_inj.mp q6
    exact h6
  by_cases q7 : j.toInt = 7
  · obtain rfl : j = (7 : Int32) := Int32.toInt_inj.mp q7
    exact h7
  by_cases q8 : j.toInt = 8
  · obtain rfl : j = (8 : Int32) := Int32.toInt_inj.mp q8
    exact h8
  by_cases q9 : j.toInt = 9
  · obtain rfl : j = (9 : Int32) := Int32.toInt_inj.mp q9
    exact h9
  by_cases q10 : j.toInt = 10
  · obtain rfl : j = (10 : Int32) := Int32.toInt_inj.mp q10
    exact h10
  by_cases q11 : j.toInt = 11
  · obtain rfl : j = (11 : Int32) := Int32.toInt_inj.mp q11
    exact h11
  by_cases q12 : j.toInt = 12
  · obtain rfl : j = (12 : Int32) := Int32.toInt_inj.mp q12
    exact h12
  by_cases q13 : j.toInt = 13
  · obtain rfl : j = (13 : Int32) := Int32.toInt_inj.mp q13
    exact h13
  by_cases q14 : j.toInt = 14
  · obtain rfl : j = (14 : Int32) := Int32.toInt_inj.mp q14
    exact h14
  by_cases q15 : j.toInt = 15
  · obtain rfl : j = (15 : Int32) := Int32.toInt_inj.mp q15
    exact h15
  by_cases q16 : j.toInt = 16
  · obtain rfl : j = (16 : Int32) := Int32.toInt_inj.mp q16
    exact h16
  by_cases q17 : j.toInt = 17
  · obtain rfl : j = (17 : Int32) := Int32.toInt_inj.mp q17
    exact h17
  by_cases q18 : j.toInt = 18
  · obtain rfl : j = (18 : Int32) := Int32.toInt_inj.mp q18
    exact h18
  omega
def own_codes (A : Nat → Addr) : List Value := [.ref (A 0), .ref (A 1), .ref (A 2), .ref (A 3), .ref (A 4), .ref (A 5), .ref (A 6), .ref (A 7), .ref (A 8), .ref (A 9), .ref (A 10), .ref (A 11), .ref (A 12), .ref (A 13), .ref (A 14), .ref (A 15), .ref (A 16), .ref (A 17), .ref (A 18)]
def own_tab (a0 a1 a2 a3 a4 a5 a6 a7 a8 a9 a10 a11 a12 a13 a14 a15 a16 a17 a18 : Addr) : Nat → Addr
  | 0 => a0
  | 1 => a1
  | 2 => a2
  | 3 => a3
  | 4 => a4
  | 5 => a5
  | 6 => a6
  | 7 => a7
  | 8 => a8
  | 9 => a9
  | 10 => a10
  | 11 => a11
  | 12 => a12
  | 13 => a13
  | 14 => a14
  | 15 => a15
  | 16 => a16
  | 17 => a17
  | _ => a18
theorem own_code {A : Nat → Addr} {x : Int32} (h : ¬ x < 0 ∧ x < (19 : Int32)) : (own_codes A).getD x.toNatClampNeg .null = .ref (A x.toNatClampNeg) := own_all_of (M := fun i _ => (own_codes A).getD i .null = .ref (A i)) rfl rfl rfl rfl rfl rfl rfl rfl rfl rfl rfl rfl rfl rfl rfl rfl rfl rfl rfl x h
theorem own_kb (p : Int32) : nar .byte (own_k p).toInt8.toInt32 = own_k p := own_all_of (M := fun _ j => nar .byte j.toInt8.toInt32 = j) rfl rfl rfl rfl rfl rfl rfl rfl rfl rfl rfl rfl rfl rfl rfl rfl rfl rfl rfl _ (own_kr p)
theorem own_lt0 {n : Int32} (h : (2 : Int32) < n) : (0 : Int32) < n := by
  have z : (0 : Int32).toInt = 0 := rfl
  have z2 : (2 : Int32).toInt = 2 := rfl
  rw [Int32.lt_iff_toInt_lt, z2] at h
  rw [Int32.lt_iff_toInt_lt, z]; omega
theorem own_lt1 {n : Int32} (h : (2 : Int32) < n) : (1 : Int32) < n := by
  have z : (1 : Int32).toInt = 1 := rfl
  have z2 : (2 : Int32).toInt = 2 := rfl
  rw [Int32.lt_iff_toInt_lt, z2] at h
  rw [Int32.lt_iff_toInt_lt, z]; omega
theorem own_lt2 {n : Int32} (h : (2 : Int32) < n) : (2 : Int32) < n := by
  have z : (2 : Int32).toInt = 2 := rfl
  have z2 : (2 : Int32).toInt = 2 := rfl
  rw [Int32.lt_iff_toInt_lt, z2] at h
  rw [Int32.lt_iff_toInt_lt, z]; omega
theorem own_n (p : Int32) : ¬ ((3 : Int32) + (p &&& (7 : Int32))) < 0 ∧ ((3 : Int32) + (p &&& (7 : Int32))).toNatClampNeg ≤ 10 ∧ (2 : Int32) < ((3 : Int32) + (p &&& (7 : Int32))) := by
  have m := c_mask p (7 : Int32) 3 (by decide) (by decide)
  have pw : ((2 ^ 3 : Nat) : Int) = 8 := rfl
  rw [pw] at m
  have z3 : (3 : Int32).toInt = 3 := rfl
  have z2 : (2 : Int32).toInt = 2 := rfl
  have z0 : (0 : Int32).toInt = 0 := rfl
  have e : ((3 : Int32) + (p &&& (7 : Int32))).toInt = 3 + p.toInt % 8 := by rw [XT.add32 (x := 3) ⟨by rw [m, z3]; omega, by rw [m, z3]; omega⟩, m, z3]
  have q : ¬ ((3 : Int32) + (p &&& (7 : Int32))) < 0 := by rw [Int32.lt_iff_toInt_lt, e, z0]; omega
  have w := nat_of q
  refine ⟨q, ?_, ?_⟩
  · omega
  · rw [Int32.lt_iff_toInt_lt, e, z2]; omega

theorem d1_0 : decode method_2_code 0 = .ok (.iload_n 0, 1) := by decide +kernel
theorem d1_1 : decode method_2_code 1 = .ok (.ldc 7, 2) := by decide +kernel
theorem d1_3 : decode method_2_code 3 = .ok (.iand, 1) := by decide +kernel
theorem d1_4 : decode method_2_code 4 = .ok (.bipush 19, 2) := by decide +kernel
theorem d1_6 : decode method_2_code 6 = .ok (.irem, 1) := by decide +kernel
theorem d1_7 : decode method_2_code 7 = .ok (.istore_n 1, 1) := by decide +kernel
theorem d1_8 : decode method_2_code 8 = .ok (.iload_n 1, 1) := by decide +kernel
theorem d1_9 : decode method_2_code 9 = .ok (.ifCond .ne 7, 3) := by decide +kernel
theorem d1_12 : decode method_2_code 12 = .ok (.getstatic 8, 3) := by decide +kernel
theorem d1_15 : decode method_2_code 15 = .ok (.areturn, 1) := by decide +kernel
theorem d1_16 : decode method_2_code 16 = .ok (.iload_n 1, 1) := by decide +kernel
theorem d1_17 : decode method_2_code 17 = .ok (.iconst 1, 1) := by decide +kernel
theorem d1_18 : decode method_2_code 18 = .ok (.if_icmp .ne 7, 3) := by decide +kernel
theorem d1_21 : decode method_2_code 21 = .ok (.getstatic 14, 3) := by decide +kernel
theorem d1_24 : decode method_2_code 24 = .ok (.areturn, 1) := by decide +kernel
theorem d1_25 : decode method_2_code 25 = .ok (.iload_n 1, 1) := by decide +kernel
theorem d1_26 : decode method_2_code 26 = .ok (.iconst 2, 1) := by decide +kernel
theorem d1_27 : decode method_2_code 27 = .ok (.if_icmp .ne 7, 3) := by decide +kernel
theorem d1_30 : decode method_2_code 30 = .ok (.getstatic 17, 3) := by decide +kernel
theorem d1_33 : decode method_2_code 33 = .ok (.areturn, 1) := by decide +kernel
theorem d1_34 : decode method_2_code 34 = .ok (.iload_n 1, 1) := by decide +kernel
theorem d1_35 : decode method_2_code 35 = .ok (.iconst 3, 1) := by decide +kernel
theorem d1_36 : decode method_2_code 36 = .ok (.if_icmp .ne 7, 3) := by decide +kernel
theorem d1_39 : decode method_2_code 39 = .ok (.getstatic 20, 3) := by decide +kernel
theorem d1_42 : decode method_2_code 42 = .ok (.areturn, 1) := by decide +kernel
theorem d1_43 : decode method_2_code 43 = .ok (.iload_n 1, 1) := by decide +kernel
theorem d1_44 : decode method_2_code 44 = .ok (.iconst 4, 1) := by decide +kernel
theorem d1_45 : decode method_2_code 45 = .ok (.if_icmp .ne 7, 3) := by decide +kernel
theorem d1_48 : decode method_2_code 48 = .ok (.getstatic 23, 3) := by decide +kernel
theorem d1_51 : decode method_2_code 51 = .ok (.areturn, 1) := by decide +kernel
theorem d1_52 : decode method_2_code 52 = .ok (.iload_n 1, 1) := by decide +kernel
theorem d1_53 : decode method_2_code 53 = .ok (.iconst 5, 1) := by decide +kernel
theorem d1_54 : decode method_2_code 54 = .ok (.if_icmp .ne 7, 3) := by decide +kernel
theorem d1_57 : decode method_2_code 57 = .ok (.getstatic 26, 3) := by decide +kernel
theorem d1_60 : decode method_2_code 60 = .ok (.areturn, 1) := by decide +kernel
theorem d1_61 : decode method_2_code 61 = .ok (.iload_n 1, 1) := by decide +kernel
theorem d1_62 : decode method_2_code 62 = .ok (.bipush 6, 2) := by decide +kernel
theorem d1_64 : decode method_2_code 64 = .ok (.if_icmp .ne 7, 3) := by decide +kernel
theorem d1_67 : decode method_2_code 67 = .ok (.getstatic 29, 3) := by decide +kernel
theorem d1_70 : decode method_2_code 70 = .ok (.areturn, 1) := by decide +kernel
theorem d1_71 : decode method_2_code 71 = .ok (.iload_n 1, 1) := by decide +kernel
theorem d1_72 : decode method_2_code 72 = .ok (.bipush 7, 2) := by decide +kernel
theorem d1_74 : decode method_2_code 74 = .ok (.if_icmp .ne 7, 3) := by decide +kernel
theorem d1_77 : decode method_2_code 77 = .ok (.getstatic 32, 3) := by decide +kernel
theorem d1_80 : decode method_2_code 80 = .ok (.areturn, 1) := by decide +kernel
theorem d1_81 : decode method_2_code 81 = .ok (.iload_n 1, 1) := by decide +kernel
theorem d1_82 : decode method_2_code 82 = .ok (.bipush 8, 2) := by decide +kernel
theorem d1_84 : decode method_2_code 84 = .ok (.if_icmp .ne 7, 3) := by decide +kernel
theorem d1_87 : decode method_2_code 87 = .ok (.getstatic 35, 3) := by decide +kernel
theorem d1_90 : decode method_2_code 90 = .ok (.areturn, 1) := by decide +kernel
theorem d1_91 : decode method_2_code 91 = .ok (.iload_n 1, 1) := by decide +kernel
theorem d1_92 : decode method_2_code 92 = .ok (.bipush 9, 2) := by decide +kernel
theorem d1_94 : decode method_2_code 94 = .ok (.if_icmp .ne 7, 3) := by decide +kernel
theorem d1_97 : decode method_2_code 97 = .ok (.getstatic 38, 3) := by decide +kernel
theorem d1_100 : decode method_2_code 100 = .ok (.areturn, 1) := by decide +kernel
theorem d1_101 : decode method_2_code 101 = .ok (.iload_n 1, 1) := by decide +kernel
theorem d1_102 : decode method_2_code 102 = .ok (.bipush 10, 2) := by decide +kernel
theorem d1_104 : decode method_2_code 104 = .ok (.if_icmp .ne 7, 3) := by decide +kernel
theorem d1_107 : decode method_2_code 107 = .ok (.getstatic 41, 3) := by decide +kernel
theorem d1_110 : decode method_2_code 110 = .ok (.areturn, 1) := by decide +kernel
theorem d1_111 : decode method_2_code 111 = .ok (.iload_n 1, 1) := by decide +kernel
theorem d1_112 : decode method_2_code 112 = .ok (.bipush 11, 2) := by decide +kernel
theorem d1_114 : decode method_2_code 114 = .ok (.if_icmp .ne 7, 3) := by decide +kernel
theorem d1_117 : decode method_2_code 117 = .ok (.getstatic 44, 3) := by decide +kernel
theorem d1_120 : decode method_2_code 120 = .ok (.areturn, 1) := by decide +kernel
theorem d1_121 : decode method_2_code 121 = .ok (.iload_n 1, 1) := by decide +kernel
theorem d1_122 : decode method_2_code 122 = .ok (.bipush 12, 2) := by decide +kernel
theorem d1_124 : decode method_2_code 124 = .ok (.if_icmp .ne 7, 3) := by decide +kernel
theorem d1_127 : decode method_2_code 127 = .ok (.getstatic 47, 3) := by decide +kernel
theorem d1_130 : decode method_2_code 130 = .ok (.areturn, 1) := by decide +kernel
theorem d1_131 : decode method_2_code 131 = .ok (.iload_n 1, 1) := by decide +kernel
theorem d1_132 : decode method_2_code 132 = .ok (.bipush 13, 2) := by decide +kernel
theorem d1_134 : decode method_2_code 134 = .ok (.if_icmp .ne 7, 3) := by decide +kernel
theorem d1_137 : decode method_2_code 137 = .ok (.getstatic 50, 3) := by decide +kernel
theorem d1_140 : decode method_2_code 140 = .ok (.areturn, 1) := by decide +kernel
theorem d1_141 : decode method_2_code 141 = .ok (.iload_n 1, 1) := by decide +kernel
theorem d1_142 : decode method_2_code 142 = .ok (.bipush 14, 2) := by decide +kernel
theorem d1_144 : decode method_2_code 144 = .ok (.if_icmp .ne 7, 3) := by decide +kernel
theorem d1_147 : decode method_2_code 147 = .ok (.getstatic 53, 3) := by decide +kernel
theorem d1_150 : decode method_2_code 150 = .ok (.areturn, 1) := by decide +kernel
theorem d1_151 : decode method_2_code 151 = .ok (.iload_n 1, 1) := by decide +kernel
theorem d1_152 : decode method_2_code 152 = .ok (.bipush 15, 2) := by decide +kernel
theorem d1_154 : decode method_2_code 154 = .ok (.if_icmp .ne 7, 3) := by decide +kernel
theorem d1_157 : decode method_2_code 157 = .ok (.getstatic 56, 3) := by decide +kernel
theorem d1_160 : decode method_2_code 160 = .ok (.areturn, 1) := by decide +kernel
theorem d1_161 : decode method_2_code 161 = .ok (.iload_n 1, 1) := by decide +kernel
theorem d1_162 : decode method_2_code 162 = .ok (.bipush 16, 2) := by decide +kernel
theorem d1_164 : decode method_2_code 164 = .ok (.if_icmp .ne 7, 3) := by decide +kernel
theorem d1_167 : decode method_2_code 167 = .ok (.getstatic 59, 3) := by decide +kernel
theorem d1_170 : decode method_2_code 170 = .ok (.areturn, 1) := by decide +kernel
theorem d1_171 : decode method_2_code 171 = .ok (.iload_n 1, 1) := by decide +kernel
theorem d1_172 : decode method_2_code 172 = .ok (.bipush 17, 2) := by decide +kernel
theorem d1_174 : decode method_2_code 174 = .ok (.if_icmp .ne 7, 3) := by decide +kernel
theorem d1_177 : decode method_2_code 177 = .ok (.getstatic 62, 3) := by decide +kernel
theorem d1_180 : decode method_2_code 180 = .ok (.areturn, 1) := by decide +kernel
theorem d1_181 : decode method_2_code 181 = .ok (.getstatic 65, 3) := by decide +kernel
theorem d1_184 : decode method_2_code 184 = .ok (.areturn, 1) := by decide +kernel
theorem pn_1 : plainName "com/example/message_ledger/messageledger/requests/ErrorCodeListAddPinLaw" = true := by first | (simp [plainName, overriddenIn]; done) | decide +kernel
theorem ef_rmPick (m : MethodId) (x0 : Int32) : entryFrame m #[(.int x0)] 2 = mkF m 0 #[.val (.int x0), .unset] [] := by first | (simp [entryFrame, mkF, argsToLocals, Value.category]; done) | rfl
def QPick (Z : State) (pk : Int32) (A : Nat → Addr) (h0 : Heap) (n0 : Nat) (v : Option Value) (h : Heap) (L : List Loc) : Prop := v = some (.ref (A (own_k pk).toNatClampNeg)) ∧ Fr n0 L ∧ h = h0
set_option maxRecDepth 65536 in
set_option maxHeartbeats 40000000 in
theorem rmPick (l : Launch) (Z : State) (a0 : Array Value) (hw : ∀ d ∈ tables_1, d.before a0 Z = true) (ws : List Jvm.Cond) (pk : Int32) (A : Nat → Addr) (h0 : Heap) (n0 : Nat) (Z0 : n0 ≤ h0.size) (S_UNKNOWN : Sta Z h0 "com/example/message_ledger/messageledger/wire/ErrorCode" "UNKNOWN" "Lcom/example/message_ledger/messageledger/wire/ErrorCode;" (.ref (A 0))) (S_NONE : Sta Z h0 "com/example/message_ledger/messageledger/wire/ErrorCode" "NONE" "Lcom/example/message_ledger/messageledger/wire/ErrorCode;" (.ref (A 1))) (S_OFFSET_OUT_OF_RANGE : Sta Z h0 "com/example/message_ledger/messageledger/wire/ErrorCode" "OFFSET_OUT_OF_RANGE" "Lcom/example/message_ledger/messageledger/wire/ErrorCode;" (.ref (A 2))) (S_CORRUPT_MESSAGE : Sta Z h0 "com/example/message_ledger/messageledger/wire/ErrorCode" "CORRUPT_MESSAGE" "Lcom/example/message_ledger/messageledger/wire/ErrorCode;" (.ref (A 3))) (S_UNKNOWN_TOPIC_OR_PARTITION : Sta Z h0 "com/example/message_ledger/messageledger/wire/ErrorCode" "UNKNOWN_TOPIC_OR_PARTITION" "Lcom/example/message_ledger/messageledger/wire/ErrorCode;" (.ref (A 4))) (S_INVALID_FETCH_SIZE : Sta Z h0 "com/example/message_ledger/messageledger/wire/ErrorCode" "INVALID_FETCH_SIZE" "Lcom/example/message_ledger/messageledger/wire/ErrorCode;" (.ref (A 5))) (S_LEADER_NOT_AVAILABLE : Sta Z h0 "com/example/message_ledger/messageledger/wire/ErrorCode" "LEADER_NOT_AVAILABLE" "Lcom/example/message_ledger/messageledger/wire/ErrorCode;" (.ref (A 6))) (S_NOT_LEADER_FOR_PARTITION : Sta Z h0 "com/example/message_ledger/messageledger/wire/ErrorCode" "NOT_LEADER_FOR_PARTITION" "Lcom/example/message_ledger/messageledger/wire/ErrorCode;" (.ref (A 7))) (S_MESSAGE_TOO_LARGE : Sta Z h0 "com/example/message_ledger/messageledger/wire/ErrorCode" "MESSAGE_TOO_LARGE" "Lcom/example/message_ledger/messageledger/wire/ErrorCode;" (.ref (A 8))) (S_OFFSET_METADATA_TOO_LARGE : Sta Z h0 "com/example/message_ledger/messageledger/wire/ErrorCode" "OFFSET_METADATA_TOO_LARGE" "Lcom/example/message_ledger/messageledger/wire/ErrorCode;" (.ref (A 9))) (S_INVALID_TOPIC : Sta Z h0 "com/example/message_ledger/messageledger/wire/ErrorCode" "INVALID_TOPIC" "Lcom/example/message_ledger/messageledger/wire/ErrorCode;" (.ref (A 10))) (S_INVALID_REQUIRED_ACKS : Sta Z h0 "com/example/message_ledger/messageledger/wire/ErrorCode" "INVALID_REQUIRED_ACKS" "Lcom/example/message_ledger/messageledger/wire/ErrorCode;" (.ref (A 11))) (S_ILLEGAL_GENERATION : Sta Z h0 "com/example/message_ledger/messageledger/wire/ErrorCode" "ILLEGAL_GENERATION" "Lcom/example/message_ledger/messageledger/wire/ErrorCode;" (.ref (A 12))) (S_INCONSISTENT_GROUP_PROTOCOL : Sta Z h0 "com/example/message_ledger/messageledger/wire/ErrorCode" "INCONSISTENT_GROUP_PROTOCOL" "Lcom/example/message_ledger/messageledger/wire/ErrorCode;" (.ref (A 13))) (S_INVALID_GROUP_ID : Sta Z h0 "com/example/message_ledger/messageledger/wire/ErrorCode" "INVALID_GROUP_ID" "Lcom/example/message_ledger/messageledger/wire/ErrorCode;" (.ref (A 14))) (S_UNKNOWN_MEMBER_ID : Sta Z h0 "com/example/message_ledger/messageledger/wire/ErrorCode" "UNKNOWN_MEMBER_ID" "Lcom/example/message_ledger/messageledger/wire/ErrorCode;" (.ref (A 15))) (S_INVALID_SESSION_TIMEOUT : Sta Z h0 "com/example/message_ledger/messageledger/wire/ErrorCode" "INVALID_SESSION_TIMEOUT" "Lcom/example/message_ledger/messageledger/wire/ErrorCode;" (.ref (A 16))) (S_REBALANCE_IN_PROGRESS : Sta Z h0 "com/example/message_ledger/messageledger/wire/ErrorCode" "REBALANCE_IN_PROGRESS" "Lcom/example/message_ledger/messageledger/wire/ErrorCode;" (.ref (A 17))) (S_UNSUPPORTED_VERSION : Sta Z h0 "com/example/message_ledger/messageledger/wire/ErrorCode" "UNSUPPORTED_VERSION" "Lcom/example/message_ledger/messageledger/wire/ErrorCode;" (.ref (A 18))) :
    MetFree l (⟨"com/example/message_ledger/messageledger/requests/ErrorCodeListAddPinLaw", "pick", "(I)Lcom/example/message_ledger/messageledger/wire/ErrorCode;"⟩ : MethodName) (head1 (Jvm.Cond.code (⟨"com/example/message_ledger/messageledger/requests/ErrorCodeListAddPinLaw", "pick", "(I)Lcom/example/message_ledger/messageledger/wire/ErrorCode;"⟩ : MethodName) method_2_code 2 (some (.object "com/example/message_ledger/messageledger/wire/ErrorCode")) :: ws) ({ frames := 0, cells := 0, slots := 0, locals := 0 } : Room)) (fun ar UU => ar = #[(.int pk)] ∧ Z.Warmed39 UU.vm ∧ UU.heap = h0) (fun _ _ _ _ _ => True) (fun _ UU oo UU' => ∃ vv LL, oo = .returned vv ∧ QPick Z pk A h0 n0 vv UU'.heap LL ∧ FrameEnd UU oo UU' LL ({ frames := 0, cells := 0, slots := 0, locals := 0 } : Room).cells ({ frames := 0, cells := 0, slots := 0, locals := 0 } : Room).slots) := by
  refine MetFree.of_bodySF (plainFor_of_name pn_1) hisR ?_
  intro p e s m args below meth c s₁ Bd hml0 hP hK
  obtain ⟨rfl, hZ, hh⟩ := hP
  have hx := Bd.exec
  have hby := Bd.bytes
  have hml : c.maxLocals = 2 := hml0
  have hown : s.vm.findClass "com/example/message_ledger/messageledger/requests/ErrorCodeListAddPinLaw" = some m.cls := findClass_of_methodNamed Bd.named
  have hnm := (name_of_methodNamed Bd.named Bd.method).1
  have X0 : Stand p l e ({ frames := 0, cells := 0, slots := 0, locals := 0 } : Room) s m #[(.int pk)] below meth c s₁ [] 0 0 := Stand.of_body Bd
  have e0 : s₁.heap = h0 := by rw [← hh, Bd.state]; rfl
  have N0 := Fr.nil n0
  have KC0 : Keep h0 h0 [] := Keep.refl h0 []
  have pre0 : ∀ tgt, Steps p.tables e below (s₁.setTop (mkF m 0 #[.val (.int pk), .unset] [])) tgt → Steps p.tables e below (s₁.setTop (entryFrame m #[(.int pk)] 2)) tgt := fun tgt kk => castTop (ef_rmPick m (pk)) kk
  have pre1 : ∀ tgt, Steps p.tables e below (s₁.setTop (mkF m 9 #[.val (.int pk), .val (.int ((pk &&& (2147483647 : Int32)) % (19 : Int32)))] [(.int ((pk &&& (2147483647 : Int32)) % (19 : Int32)))])) tgt → Steps p.tables e below (s₁.setTop (entryFrame m #[(.int pk)] 2)) tgt := by
    intro tgt kk
    refine pre0 tgt ?_
    refine XS.iloadN X0.here hx rfl (hb hby d1_0) rfl ?_
    show Steps p.tables e below (s₁.setTop (mkF m 1 #[.val (.int pk), .unset] [(.int pk)])) _
    refine X0.ldcInt hx hown (mvT hZ (hw _ (List.mem_of_getElem? (i := 4) rfl))) (g := (mkF m 1 #[.val (.int pk), .unset] [(.int pk)])) rfl (hb hby d1_1) _ ?_
    show Steps p.tables e below (s₁.setTop (mkF m 3 #[.val (.int pk), .unset] [(.int (2147483647 : Int32)), (.int pk)])) _
    refine XS.iand X0.here hx rfl (hb hby d1_3) rfl ?_
    show Steps p.tables e below (s₁.setTop (mkF m 4 #[.val (.int pk), .unset] [(.int (pk &&& (2147483647 : Int32)))])) _
    refine XS.bipush X0.here hx rfl (hb hby d1_4) ?_
    show Steps p.tables e below (s₁.setTop (mkF m 6 #[.val (.int pk), .unset] [(.int (19 : Int32)), (.int (pk &&& (2147483647 : Int32)))])) _
    refine iremM X0 hx rfl (hb hby d1_6) rfl (by decide) ?_
    show Steps p.tables e below (s₁.setTop (mkF m 7 #[.val (.int pk), .unset] [(.int ((pk &&& (2147483647 : Int32)) % (19 : Int32)))])) _
    refine XS.istoreN X0.here hx rfl (hb hby d1_7) rfl (l' := #[.val (.int pk), .val (.int ((pk &&& (2147483647 : Int32)) % (19 : Int32)))]) rfl ?_
    show Steps p.tables e below (s₁.setTop (mkF m 8 #[.val (.int pk), .val (.int ((pk &&& (2147483647 : Int32)) % (19 : Int32)))] [])) _
    refine XS.iloadN X0.here hx rfl (hb hby d1_8) rfl ?_
    show Steps p.tables e below (s₁.setTop (mkF m 9 #[.val (.int pk), .val (.int ((pk &&& (2147483647 : Int32)) % (19 : Int32)))] [(.int ((pk &&& (2147483647 : Int32)) % (19 : Int32)))])) _
    exact kk
  by_cases hc9_2 : ((pk &&& (2147483647 : Int32)) % (19 : Int32)) = (0 : Int32)
  · skip
    have pre3 : ∀ tgt, Steps p.tables e below (s₁.setTop (mkF m 12 #[.val (.int pk), .val (.int ((pk &&& (2147483647 : Int32)) % (19 : Int32)))] [])) tgt → Steps p.tables e below (s₁.setTop (entryFrame m #[(.int pk)] 2)) tgt := by
      intro tgt kk
      refine pre1 tgt ?_
      refine XS.ifNo X0.here hx rfl (hb hby d1_9) rfl (XT.i0_ne_f hc9_2) ?_
      show Steps p.tables e below (s₁.setTop (mkF m 12 #[.val (.int pk), .val (.int ((pk &&& (2147483647 : Int32)) % (19 : Int32)))] [])) _
      exact kk
    obtain ⟨T4, X4, e4, st4⟩ := getS X0 hx hZ hown (host := "") (hw _ (List.mem_of_getElem? (i := 5) rfl)) Via.refl e0 S_UNKNOWN (g := (mkF m 12 #[.val (.int pk), .val (.int ((pk &&& (2147483647 : Int32)) % (19 : Int32)))] [])) rfl (hb hby d1_12)
    obtain ⟨fs, hr, hrun, hended, hW, hsame⟩ := X4.leave (v := some (.ref (A 0))) (fun h => by rw [Bd.returns] at h; cases h)
    refine ⟨_, _, pre3 _ ?_, hrun, hended, _, _, rfl, ?_, ⟨_, rfl⟩, hW, hsame.mono (by decide) (by decide)⟩
    · skip
      refine st4 _ ?_
      show Steps p.tables e below (T4.setTop (mkF m 15 #[.val (.int pk), .val (.int ((pk &&& (2147483647 : Int32)) % (19 : Int32)))] [(.ref (A 0))])) _
      exact retOut X4 hx Bd.returns rfl (Or.inr (Or.inr (Or.inr (Or.inr ⟨rfl, rfl, rfl⟩)))) (hb hby d1_15) hr
    · show QPick Z pk A h0 n0 _ T4.heap _
      rw [e4]
      exact ⟨by rw [show own_k pk = (0 : Int32) from hc9_2]; rfl, N0, rfl⟩
  · skip
    have pre5 : ∀ tgt, Steps p.tables e below (s₁.setTop (mkF m 18 #[.val (.int pk), .val (.int ((pk &&& (2147483647 : Int32)) % (19 : Int32)))] [(.int (1 : Int32)), (.int ((pk &&& (2147483647 : Int32)) % (19 : Int32)))])) tgt → Steps p.tables e below (s₁.setTop (entryFrame m #[(.int pk)] 2)) tgt := by
      intro tgt kk
      refine pre1 tgt ?_
      refine XS.ifYes X0.here hx rfl (pc0 := 9) (pc' := 16) rfl (hb hby d1_9) rfl (XT.i0_ne_t hc9_2) (by decide) (by decide) ?_
      show Steps p.tables e below (s₁.setTop (mkF m 16 #[.val (.int pk), .val (.int ((pk &&& (2147483647 : Int32)) % (19 : Int32)))] [])) _
      refine XS.iloadN X0.here hx rfl (hb hby d1_16) rfl ?_
      show Steps p.tables e below (s₁.setTop (mkF m 17 #[.val (.int pk), .val (.int ((pk &&& (2147483647 : Int32)) % (19 : Int32)))] [(.int ((pk &&& (2147483647 : Int32)) % (19 : Int32)))])) _
      refine XS.iconst X0.here hx rfl (hb hby d1_17) ?_
      show Steps p.tables e below (s₁.setTop (mkF m 18 #[.val (.int pk), .val (.int ((pk &&& (2147483647 : Int32)) % (19 : Int32)))] [(.int (1 : Int32)), (.int ((pk &&& (2147483647 : Int32)) % (19 : Int32)))])) _
      exact kk
    by_cases hc18_6 : ((pk &&& (2147483647 : Int32)) % (19 : Int32)) = (1 : Int32)
    · skip
      have pre7 : ∀ tgt, Steps p.tables e below (s₁.setTop (mkF m 21 #[.val (.int pk), .val (.int ((pk &&& (2147483647 : Int32)) % (19 : Int32)))] [])) tgt → Steps p.tables e below (s₁.setTop (entryFrame m #[(.int pk)] 2)) tgt := by
        intro tgt kk
        refine pre5 tgt ?_
        refine XS.icmpNo X0.here hx rfl (hb hby d1_18) rfl (XT.ii_ne_f hc18_6) ?_
        show Steps p.tables e below (s₁.setTop (mkF m 21 #[.val (.int pk), .val (.int ((pk &&& (2147483647 : Int32)) % (19 : Int32)))] [])) _
        exact kk
      obtain ⟨T8, X8, e8, st8⟩ := getS X0 hx hZ hown (host := "") (hw _ (List.mem_of_getElem? (i := 85) rfl)) Via.refl e0 S_NONE (g := (mkF m 21 #[.val (.int pk), .val (.int ((pk &&& (2147483647 : Int32)) % (19 : Int32)))] [])) rfl (hb hby d1_21)
      obtain ⟨fs, hr, hrun, hended, hW, hsame⟩ := X8.leave (v := some (.ref (A 1))) (fun h => by rw [Bd.returns] at h; cases h)
      refine ⟨_, _, pre7 _ ?_, hrun, hended, _, _, rfl, ?_, ⟨_, rfl⟩, hW, hsame.mono (by decide) (by decide)⟩
      · skip
        refine st8 _ ?_
        show Steps p.tables e below (T8.setTop (mkF m 24 #[.val (.int pk), .val (.int ((pk &&& (2147483647 : Int32)) % (19 : Int32)))] [(.ref (A 1))])) _
        exact retOut X8 hx Bd.returns rfl (Or.inr (Or.inr (Or.inr (Or.inr ⟨rfl, rfl, rfl⟩)))) (hb hby d1_24) hr
      · show QPick Z pk A h0 n0 _ T8.heap _
        rw [e8]
        exact ⟨by rw [show own_k pk = (1 : Int32) from hc18_6]; rfl, N0, rfl⟩
    · skip
      have pre9 : ∀ tgt, Steps p.tables e below (s₁.setTop (mkF m 27 #[.val (.int pk), .val (.int ((pk &&& (2147483647 : Int32)) % (19 : Int32)))] [(.int (2 : Int32)), (.int ((pk &&& (2147483647 : Int32)) % (19 : Int32)))])) tgt → Steps p.tables e below (s₁.setTop (entryFrame m #[(.int pk)] 2)) tgt := by
        intro tgt kk
        refine pre5 tgt ?_
        refine XS.icmpYes X0.here hx rfl (pc0 := 18) (pc' := 25) rfl (hb hby d1_18) rfl (XT.ii_ne_t hc18_6) (by decide) (by decide) ?_
        show Steps p.tables e below (s₁.setTop (mkF m 25 #[.val (.int pk), .val (.int ((pk &&& (2147483647 : Int32)) % (19 : Int32)))] [])) _
        refine XS.iloadN X0.here hx rfl (hb hby d1_25) rfl ?_
        show Steps p.tables e below (s₁.setTop (mkF m 26 #[.val (.int pk), .val (.int ((pk &&& (2147483647 : Int32)) % (19 : Int32)))] [(.int ((pk &&& (2147483647 : Int32)) % (19 : Int32)))])) _
        refine XS.iconst X0.here hx rfl (hb hby d1_26) ?_
        show Steps p.tables e below (s₁.setTop (mkF m 27 #[.val (.int pk), .val (.int ((pk &&& (2147483647 : Int32)) % (19 : Int32)))] [(.int (2 : Int32)), (.int ((pk &&& (2147483647 : Int32)) % (19 : Int32)))])) _
        exact kk
      by_cases hc27_10 : ((pk &&& (2147483647 : Int32)) % (19 : Int32)) = (2 : Int32)
      · skip
        have pre11 : ∀ tgt, Steps p.tables e below (s₁.setTop (mkF m 30 #[.val (.int pk), .val (.int ((pk &&& (2147483647 : Int32)) % (19 : Int32)))] [])) tgt → Steps p.tables e below (s₁.setTop (entryFrame m #[(.int pk)] 2)) tgt := by
          intro tgt kk
          refine pre9 tgt ?_
          refine XS.icmpNo X0.here hx rfl (hb hby d1_27) rfl (XT.ii_ne_f hc27_10) ?_
          show Steps p.tables e below (s₁.setTop (mkF m 30 #[.val (.int pk), .val (.int ((pk &&& (2147483647 : Int32)) % (19 : Int32)))] [])) _
          exact kk
        obtain ⟨T12, X12, e12, st12⟩ := getS X0 hx hZ hown (host := "") (hw _ (List.mem_of_getElem? (i := 10) rfl)) Via.refl e0 S_OFFSET_OUT_OF_RANGE (g := (mkF m 30 #[.val (.int pk), .val (.int ((pk &&& (2147483647 : Int32)) % (19 : Int32)))] [])) rfl (hb hby d1_30)
        obtain ⟨fs, hr, hrun, hended, hW, hsame⟩ := X12.leave (v := some (.ref (A 2))) (fun h => by rw [Bd.returns] at h; cases h)
        refine ⟨_, _, pre11 _ ?_, hrun, hended, _, _, rfl, ?_, ⟨_, rfl⟩, hW, hsame.mono (by decide) (by decide)⟩
        · skip
          refine st12 _ ?_
          show Steps p.tables e below (T12.setTop (mkF m 33 #[.val (.int pk), .val (.int ((pk &&& (2147483647 : Int32)) % (19 : Int32)))] [(.ref (A 2))])) _
          exact retOut X12 hx Bd.returns rfl (Or.inr (Or.inr (Or.inr (Or.inr ⟨rfl, rfl, rfl⟩)))) (hb hby d1_33) hr
        · show QPick Z pk A h0 n0 _ T12.heap _
          rw [e12]
          exact ⟨by rw [show own_k pk = (2 : Int32) from hc27_10]; rfl, N0, rfl⟩
      · skip
        have pre13 : ∀ tgt, Steps p.tables e below (s₁.setTop (mkF m 36 #[.val (.int pk), .val (.int ((pk &&& (2147483647 : Int32)) % (19 : Int32)))] [(.int (3 : Int32)), (.int ((pk &&& (2147483647 : Int32)) % (19 : Int32)))])) tgt → Steps p.tables e below (s₁.setTop (entryFrame m #[(.int pk)] 2)) tgt := by
          intro tgt kk
          refine pre9 tgt ?_
          refine XS.icmpYes X0.here hx rfl (pc0 := 27) (pc' := 34) rfl (hb hby d1_27) rfl (XT.ii_ne_t hc27_10) (by decide) (by decide) ?_
          show Steps p.tables e below (s₁.setTop (mkF m 34 #[.val (.int pk), .val (.int ((pk &&& (2147483647 : Int32)) % (19 : Int32)))] [])) _
          refine XS.iloadN X0.here hx rfl (hb hby d1_34) rfl ?_
          show Steps p.tables e below (s₁.setTop (mkF m 35 #[.val (.int pk), .val (.int ((pk &&& (2147483647 : Int32)) % (19 : Int32)))] [(.int ((pk &&& (2147483647 : Int32)) % (19 : Int32)))])) _
          refine XS.iconst X0.here hx rfl (hb hby d1_35) ?_
          show Steps p.tables e below (s₁.setTop (mkF m 36 #[.val (.int pk), .val (.int ((pk &&& (2147483647 : Int32)) % (19 : Int32)))] [(.int (3 : Int32)), (.int ((pk &&& (2147483647 : Int32)) % (19 : Int32)))])) _
          exact kk
        by_cases hc36_14 : ((pk &&& (2147483647 : Int32)) % (19 : Int32)) = (3 : Int32)
        · skip
          have pre15 : ∀ tgt, Steps p.tables e below (s₁.setTop (mkF m 39 #[.val (.int pk), .val (.int ((pk &&& (2147483647 : Int32)) % (19 : Int32)))] [])) tgt → Steps p.tables e below (s₁.setTop (entryFrame m #[(.int pk)] 2)) tgt := by
            intro tgt kk
            refine pre13 tgt ?_
            refine XS.icmpNo X0.here hx rfl (hb hby d1_36) rfl (XT.ii_ne_f hc36_14) ?_
            show Steps p.tables e below (s₁.setTop (mkF m 39 #[.val (.int pk), .val (.int ((pk &&& (2147483647 : Int32)) % (19 : Int32)))] [])) _
            exact kk
          obtain ⟨T16, X16, e16, st16⟩ := getS X0 hx hZ hown (host := "") (hw _ (List.mem_of_getElem? (i := 8) rfl)) Via.refl e0 S_CORRUPT_MESSAGE (g := (mkF m 39 #[.val (.int pk), .val (.int ((pk &&& (2147483647 : Int32)) % (19 : Int32)))] [])) rfl (hb hby d1_39)
          obtain ⟨fs, hr, hrun, hended, hW, hsame⟩ := X16.leave (v := some (.ref (A 3))) (fun h => by rw [Bd.returns] at h; cases h)
          refine ⟨_, _, pre15 _ ?_, hrun, hended, _, _, rfl, ?_, ⟨_, rfl⟩, hW, hsame.mono (by decide) (by decide)⟩
          · skip
            refine st16 _ ?_
            show Steps p.tables e below (T16.setTop (mkF m 42 #[.val (.int pk), .val (.int ((pk &&& (2147483647 : Int32)) % (19 : Int32)))] [(.ref (A 3))])) _
            exact retOut X16 hx Bd.returns rfl (Or.inr (Or.inr (Or.inr (Or.inr ⟨rfl, rfl, rfl⟩)))) (hb hby d1_42) hr
          · show QPick Z pk A h0 n0 _ T16.heap _
            rw [e16]
            exact ⟨by rw [show own_k pk = (3 : Int32) from hc36_14]; rfl, N0, rfl⟩
        · skip
          have pre17 : ∀ tgt, Steps p.tables e below (s₁.setTop (mkF m 45 #[.val (.int pk), .val (.int ((pk &&& (2147483647 : Int32)) % (19 : Int32)))] [(.int (4 : Int32)), (.int ((pk &&& (2147483647 : Int32)) % (19 : Int32)))])) tgt → Steps p.tables e below (s₁.setTop (entryFrame m #[(.int pk)] 2)) tgt := by
            intro tgt kk
            refine pre13 tgt ?_
            refine XS.icmpYes X0.here hx rfl (pc0 := 36) (pc' := 43) rfl (hb hby d1_36) rfl (XT.ii_ne_t hc36_14) (by decide) (by decide) ?_
            show Steps p.tables e below (s₁.setTop (mkF m 43 #[.val (.int pk), .val (.int ((pk &&& (2147483647 : Int32)) % (19 : Int32)))] [])) _
            refine XS.iloadN X0.here hx rfl (hb hby d1_43) rfl ?_
            show Steps p.tables e below (s₁.setTop (mkF m 44 #[.val (.int pk), .val (.int ((pk &&& (2147483647 : Int32)) % (19 : Int32)))] [(.int ((pk &&& (2147483647 : Int32)) % (19 : Int32)))])) _
            refine XS.iconst X0.here hx rfl (hb hby d1_44) ?_
            show Steps p.tables e below (s₁.setTop (mkF m 45 #[.val (.int pk), .val (.int ((pk &&& (2147483647 : Int32)) % (19 : Int32)))] [(.int (4 : Int32)), (.int ((pk &&& (2147483647 : Int32)) % (19 : Int32)))])) _
            exact kk
          by_cases hc45_18 : ((pk &&& (2147483647 : Int32)) % (19 : Int32)) = (4 : Int32)
          · skip
            have pre19 : ∀ tgt, Steps p.tables e below (s₁.setTop (mkF m 48 #[.val (.int pk), .val (.int ((pk &&& (2147483647 : Int32)) % (19 : Int32)))] [])) tgt → Steps p.tables e below (s₁.setTop (entryFrame m #[(.int pk)] 2)) tgt := by
              intro tgt kk
              refine pre17 tgt ?_
              refine XS.icmpNo X0.here hx rfl (hb hby d1_45) rfl (XT.ii_ne_f hc45_18) ?_
              show Steps p.tables e below (s₁.setTop (mkF m 48 #[.val (.int pk), .val (.int ((pk &&& (2147483647 : Int32)) % (19 : Int32)))] [])) _
              exact kk
            obtain ⟨T20, X20, e20, st20⟩ := getS X0 hx hZ hown (host := "") (hw _ (List.mem_of_getElem? (i := 77) rfl)) Via.refl e0 S_UNKNOWN_TOPIC_OR_PARTITION (g := (mkF m 48 #[.val (.int pk), .val (.int ((pk &&& (2147483647 : Int32)) % (19 : Int32)))] [])) rfl (hb hby d1_48)
            obtain ⟨fs, hr, hrun, hended, hW, hsame⟩ := X20.leave (v := some (.ref (A 4))) (fun h => by rw [Bd.returns] at h; cases h)
            refine ⟨_, _, pre19 _ ?_, hrun, hended, _, _, rfl, ?_, ⟨_, rfl⟩, hW, hsame.mono (by decide) (by decide)⟩
            · skip
              refine st20 _ ?_
              show Steps p.tables e below (T20.setTop (mkF m 51 #[.val (.int pk), .val (.int ((pk &&& (2147483647 : Int32)) % (19 : Int32)))] [(.ref (A 4))])) _
              exact retOut X20 hx Bd.returns rfl (Or.inr (Or.inr (Or.inr (Or.inr ⟨rfl, rfl, rfl⟩)))) (hb hby d1_51) hr
            · show QPick Z pk A h0 n0 _ T20.heap _
              rw [e20]
              exact ⟨by rw [show own_k pk = (4 : Int32) from hc45_18]; rfl, N0, rfl⟩
          · skip
            have pre21 : ∀ tgt, Steps p.tables e below (s₁.setTop (mkF m 54 #[.val (.int pk), .val (.int ((pk &&& (2147483647 : Int32)) % (19 : Int32)))] [(.int (5 : Int32)), (.int ((pk &&& (2147483647 : Int32)) % (19 : Int32)))])) tgt → Steps p.tables e below (s₁.setTop (entryFrame m #[(.int pk)] 2)) tgt := by
              intro tgt kk
              refine pre17 tgt ?_
              refine XS.icmpYes X0.here hx rfl (pc0 := 45) (pc' := 52) rfl (hb hby d1_45) rfl (XT.ii_ne_t hc45_18) (by decide) (by decide) ?_
              show Steps p.tables e below (s₁.setTop (mkF m 52 #[.val (.int pk), .val (.int ((pk &&& (2147483647 : Int32)) % (19 : Int32)))] [])) _
              refine XS.iloadN X0.here hx rfl (hb hby d1_52) rfl ?_
              show Steps p.tables e below (s₁.setTop (mkF m 53 #[.val (.int pk), .val (.int ((pk &&& (2147483647 : Int32)) % (19 : Int32)))] [(.int ((pk &&& (2147483647 : Int32)) % (19 : Int32)))])) _
              refine XS.iconst X0.here hx rfl (hb hby d1_53) ?_
              show Steps p.tables e below (s₁.setTop (mkF m 54 #[.val (.int pk), .val (.int ((pk &&& (2147483647 : Int32)) % (19 : Int32)))] [(.int (5 : Int32)), (.int ((pk &&& (2147483647 : Int32)) % (19 : Int32)))])) _
              exact kk
            by_cases hc54_22 : ((pk &&& (2147483647 : Int32)) % (19 : Int32)) = (5 : Int32)
            · skip
              have pre23 : ∀ tgt, Steps p.tables e below (s₁.setTop (mkF m 57 #[.val (.int pk), .val (.int ((pk &&& (2147483647 : Int32)) % (19 : Int32)))] [])) tgt → Steps p.tables e below (s₁.setTop (entryFrame m #[(.int pk)] 2)) tgt := by
                intro tgt kk
                refine pre21 tgt ?_
                refine XS.icmpNo X0.here hx rfl (hb hby d1_54) rfl (XT.ii_ne_f hc54_22) ?_
                show Steps p.tables e below (s₁.setTop (mkF m 57 #[.val (.int pk), .val (.int ((pk &&& (2147483647 : Int32)) % (19 : Int32)))] [])) _
                exact kk
              obtain ⟨T24, X24, e24, st24⟩ := getS X0 hx hZ hown (host := "") (hw _ (List.mem_of_getElem? (i := 89) rfl)) Via.refl e0 S_INVALID_FETCH_SIZE (g := (mkF m 57 #[.val (.int pk), .val (.int ((pk &&& (2147483647 : Int32)) % (19 : Int32)))] [])) rfl (hb hby d1_57)
              obtain ⟨fs, hr, hrun, hended, hW, hsame⟩ := X24.leave (v := some (.ref (A 5))) (fun h => by rw [Bd.returns] at h; cases h)
              refine ⟨_, _, pre23 _ ?_, hrun, hended, _, _, rfl, ?_, ⟨_, rfl⟩, hW, hsame.mono (by decide) (by decide)⟩
              · skip
                refine st24 _ ?_
                show Steps p.tables e below (T24.setTop (mkF m 60 #[.val (.int pk), .val (.int ((pk &&& (2147483647 : Int32)) % (19 : Int32)))] [(.ref (A 5))])) _
                exact retOut X24 hx Bd.returns rfl (Or.inr (Or.inr (Or.inr (Or.inr ⟨rfl, rfl, rfl⟩)))) (hb hby d1_60) hr
              · show QPick Z pk A h0 n0 _ T24.heap _
                rw [e24]
                exact ⟨by rw [show own_k pk = (5 : Int32) from hc54_22]; rfl, N0, rfl⟩
            · skip
              have pre25 : ∀ tgt, Steps p.tables e below (s₁.setTop (mkF m 64 #[.val (.int pk), .val (.int ((pk &&& (2147483647 : Int32)) % (19 : Int32)))] [(.int (6 : Int32)), (.int ((pk &&& (2147483647 : Int32)) % (19 : Int32)))])) tgt → Steps p.tables e below (s₁.setTop (entryFrame m #[(.int pk)] 2)) tgt := by
                intro tgt kk
                refine pre21 tgt ?_
                refine XS.icmpYes X0.here hx rfl (pc0 := 54) (pc' := 61) rfl (hb hby d1_54) rfl (XT.ii_ne_t hc54_22) (by decide) (by decide) ?_
                show Steps p.tables e below (s₁.setTop (mkF m 61 #[.val (.int pk), .val (.int ((pk &&& (2147483647 : Int32)) % (19 : Int32)))] [])) _
                refine XS.iloadN X0.here hx rfl (hb hby d1_61) rfl ?_
                show Steps p.tables e below (s₁.setTop (mkF m 62 #[.val (.int pk), .val (.int ((pk &&& (2147483647 : Int32)) % (19 : Int32)))] [(.int ((pk &&& (2147483647 : Int32)) % (19 : Int32)))])) _
                refine XS.bipush X0.here hx rfl (hb hby d1_62) ?_
                show Steps p.tables e below (s₁.setTop (mkF m 64 #[.val (.int pk), .val (.int ((pk &&& (2147483647 : Int32)) % (19 : Int32)))] [(.int (6 : Int32)), (.int ((pk &&& (2147483647 : Int32)) % (19 : Int32)))])) _
                exact kk
              by_cases hc64_26 : ((pk &&& (2147483647 : Int32)) % (19 : Int32)) = (6 : Int32)
              · skip
                have pre27 : ∀ tgt, Steps p.tables e below (s₁.setTop (mkF m 67 #[.val (.int pk), .val (.int ((pk &&& (2147483647 : Int32)) % (19 : Int32)))] [])) tgt → Steps p.tables e below (s₁.setTop (entryFrame m #[(.int pk)] 2)) tgt := by
                  intro tgt kk
                  refine pre25 tgt ?_
                  refine XS.icmpNo X0.here hx rfl (hb hby d1_64) rfl (XT.ii_ne_f hc64_26) ?_
                  show Steps p.tables e below (s₁.setTop (mkF m 67 #[.val (.int pk), .val (.int ((pk &&& (2147483647 : Int32)) % (19 : Int32)))] [])) _
                  exact kk
                obtain ⟨T28, X28, e28, st28⟩ := getS X0 hx hZ hown (host := "") (hw _ (List.mem_of_getElem? (i := 99) rfl)) Via.refl e0 S_LEADER_NOT_AVAILABLE (g := (mkF m 67 #[.val (.int pk), .val (.int ((pk &&& (2147483647 : Int32)) % (19 : Int32)))] [])) rfl (hb hby d1_67)
                obtain ⟨fs, hr, hrun, hended, hW, hsame⟩ := X28.leave (v := some (.ref (A 6))) (fun h => by rw [Bd.returns] at h; cases h)
                refine ⟨_, _, pre27 _ ?_, hrun, hended, _, _, rfl, ?_, ⟨_, rfl⟩, hW, hsame.mono (by decide) (by decide)⟩
                · skip
                  refine st28 _ ?_
                  show Steps p.tables e below (T28.setTop (mkF m 70 #[.val (.int pk), .val (.int ((pk &&& (2147483647 : Int32)) % (19 : Int32)))] [(.ref (A 6))])) _
                  exact retOut X28 hx Bd.returns rfl (Or.inr (Or.inr (Or.inr (Or.inr ⟨rfl, rfl, rfl⟩)))) (hb hby d1_70) hr
                · show QPick Z pk A h0 n0 _ T28.heap _
                  rw [e28]
                  exact ⟨by rw [show own_k pk = (6 : Int32) from hc64_26]; rfl, N0, rfl⟩
              · skip
                have pre29 : ∀ tgt, Steps p.tables e below (s₁.setTop (mkF m 74 #[.val (.int pk), .val (.int ((pk &&& (2147483647 : Int32)) % (19 : Int32)))] [(.int (7 : Int32)), (.int ((pk &&& (2147483647 : Int32)) % (19 : Int32)))])) tgt → Steps p.tables e below (s₁.setTop (entryFrame m #[(.int pk)] 2)) tgt := by
                  intro tgt kk
                  refine pre25 tgt ?_
                  refine XS.icmpYes X0.here hx rfl (pc0 := 64) (pc' := 71) rfl (hb hby d1_64) rfl (XT.ii_ne_t hc64_26) (by decide) (by decide) ?_
                  show Steps p.tables e below (s₁.setTop (mkF m 71 #[.val (.int pk), .val (.int ((pk &&& (2147483647 : Int32)) % (19 : Int32)))] [])) _
                  refine XS.iloadN X0.here hx rfl (hb hby d1_71) rfl ?_
                  show Steps p.tables e below (s₁.setTop (mkF m 72 #[.val (.int pk), .val (.int ((pk &&& (2147483647 : Int32)) % (19 : Int32)))] [(.int ((pk &&& (2147483647 : Int32)) % (19 : Int32)))])) _
                  refine XS.bipush X0.here hx rfl (hb hby d1_72) ?_
                  show Steps p.tables e below (s₁.setTop (mkF m 74 #[.val (.int pk), .val (.int ((pk &&& (2147483647 : Int32)) % (19 : Int32)))] [(.int (7 : Int32)), (.int ((pk &&& (2147483647 : Int32)) % (19 : Int32)))])) _
                  exact kk
                by_cases hc74_30 : ((pk &&& (2147483647 : Int32)) % (19 : Int32)) = (7 : Int32)
                · skip
                  have pre31 : ∀ tgt, Steps p.tables e below (s₁.setTop (mkF m 77 #[.val (.int pk), .val (.int ((pk &&& (2147483647 : Int32)) % (19 : Int32)))] [])) tgt → Steps p.tables e below (s₁.setTop (entryFrame m #[(.int pk)] 2)) tgt := by
                    intro tgt kk
                    refine pre29 tgt ?_
                    refine XS.icmpNo X0.here hx rfl (hb hby d1_74) rfl (XT.ii_ne_f hc74_30) ?_
                    show Steps p.tables e below (s₁.setTop (mkF m 77 #[.val (.int pk), .val (.int ((pk &&& (2147483647 : Int32)) % (19 : Int32)))] [])) _
                    exact kk
                  obtain ⟨T32, X32, e32, st32⟩ := getS X0 hx hZ hown (host := "") (hw _ (List.mem_of_getElem? (i := 81) rfl)) Via.refl e0 S_NOT_LEADER_FOR_PARTITION (g := (mkF m 77 #[.val (.int pk), .val (.int ((pk &&& (2147483647 : Int32)) % (19 : Int32)))] [])) rfl (hb hby d1_77)
                  obtain ⟨fs, hr, hrun, hended, hW, hsame⟩ := X32.leave (v := some (.ref (A 7))) (fun h => by rw [Bd.returns] at h; cases h)
                  refine ⟨_, _, pre31 _ ?_, hrun, hended, _, _, rfl, ?_, ⟨_, rfl⟩, hW, hsame.mono (by decide) (by decide)⟩
                  · skip
                    refine st32 _ ?_
                    show Steps p.tables e below (T32.setTop (mkF m 80 #[.val (.int pk), .val (.int ((pk &&& (2147483647 : Int32)) % (19 : Int32)))] [(.ref (A 7))])) _
                    exact retOut X32 hx Bd.returns rfl (Or.inr (Or.inr (Or.inr (Or.inr ⟨rfl, rfl, rfl⟩)))) (hb hby d1_80) hr
                  · show QPick Z pk A h0 n0 _ T32.heap _
                    rw [e32]
                    exact ⟨by rw [show own_k pk = (7 : Int32) from hc74_30]; rfl, N0, rfl⟩
                · skip
                  have pre33 : ∀ tgt, Steps p.tables e below (s₁.setTop (mkF m 84 #[.val (.int pk), .val (.int ((pk &&& (2147483647 : Int32)) % (19 : Int32)))] [(.int (8 : Int32)), (.int ((pk &&& (2147483647 : Int32)) % (19 : Int32)))])) tgt → Steps p.tables e below (s₁.setTop (entryFrame m #[(.int pk)] 2)) tgt := by
                    intro tgt kk
                    refine pre29 tgt ?_
                    refine XS.icmpYes X0.here hx rfl (pc0 := 74) (pc' := 81) rfl (hb hby d1_74) rfl (XT.ii_ne_t hc74_30) (by decide) (by decide) ?_
                    show Steps p.tables e below (s₁.setTop (mkF m 81 #[.val (.int pk), .val (.int ((pk &&& (2147483647 : Int32)) % (19 : Int32)))] [])) _
                    refine XS.iloadN X0.here hx rfl (hb hby d1_81) rfl ?_
                    show Steps p.tables e below (s₁.setTop (mkF m 82 #[.val (.int pk), .val (.int ((pk &&& (2147483647 : Int32)) % (19 : Int32)))] [(.int ((pk &&& (2147483647 : Int32)) % (19 : Int32)))])) _
                    refine XS.bipush X0.here hx rfl (hb hby d1_82) ?_
                    show Steps p.tables e below (s₁.setTop (mkF m 84 #[.val (.int pk), .val (.int ((pk &&& (2147483647 : Int32)) % (19 : Int32)))] [(.int (8 : Int32)), (.int ((pk &&& (2147483647 : Int32)) % (19 : Int32)))])) _
                    exact kk
                  by_cases hc84_34 : ((pk &&& (2147483647 : Int32)) % (19 : Int32)) = (8 : Int32)
                  · skip
                    have pre35 : ∀ tgt, Steps p.tables e below (s₁.setTop (mkF m 87 #[.val (.int pk), .val (.int ((pk &&& (2147483647 : Int32)) % (19 : Int32)))] [])) tgt → Steps p.tables e below (s₁.setTop (entryFrame m #[(.int pk)] 2)) tgt := by
                      intro tgt kk
                      refine pre33 tgt ?_
                      refine XS.icmpNo X0.here hx rfl (hb hby d1_84) rfl (XT.ii_ne_f hc84_34) ?_
                      show Steps p.tables e below (s₁.setTop (mkF m 87 #[.val (.int pk), .val (.int ((pk &&& (2147483647 : Int32)) % (19 : Int32)))] [])) _
                      exact kk
                    obtain ⟨T36, X36, e36, st36⟩ := getS X0 hx hZ hown (host := "") (hw _ (List.mem_of_getElem? (i := 87) rfl)) Via.refl e0 S_MESSAGE_TOO_LARGE (g := (mkF m 87 #[.val (.int pk), .val (.int ((pk &&& (2147483647 : Int32)) % (19 : Int32)))] [])) rfl (hb hby d1_87)
                    obtain ⟨fs, hr, hrun, hended, hW, hsame⟩ := X36.leave (v := some (.ref (A 8))) (fun h => by rw [Bd.returns] at h; cases h)
                    refine ⟨_, _, pre35 _ ?_, hrun, hended, _, _, rfl, ?_, ⟨_, rfl⟩, hW, hsame.mono (by decide) (by decide)⟩
                    · skip
                      refine st36 _ ?_
                      show Steps p.tables e below (T36.setTop (mkF m 90 #[.val (.int pk), .val (.int ((pk &&& (2147483647 : Int32)) % (19 : Int32)))] [(.ref (A 8))])) _
                      exact retOut X36 hx Bd.returns rfl (Or.inr (Or.inr (Or.inr (Or.inr ⟨rfl, rfl, rfl⟩)))) (hb hby d1_90) hr
                    · show QPick Z pk A h0 n0 _ T36.heap _
                      rw [e36]
                      exact ⟨by rw [show own_k pk = (8 : Int32) from hc84_34]; rfl, N0, rfl⟩
                  · skip
                    have pre37 : ∀ tgt, Steps p.tables e below (s₁.setTop (mkF m 94 #[.val (.int pk), .val (.int ((pk &&& (2147483647 : Int32)) % (19 : Int32)))] [(.int (9 : Int32)), (.int ((pk &&& (2147483647 : Int32)) % (19 : Int32)))])) tgt → Steps p.tables e below (s₁.setTop (entryFrame m #[(.int pk)] 2)) tgt := by
                      intro tgt kk
                      refine pre33 tgt ?_
                      refine XS.icmpYes X0.here hx rfl (pc0 := 84) (pc' := 91) rfl (hb hby d1_84) rfl (XT.ii_ne_t hc84_34) (by decide) (by decide) ?_
                      show Steps p.tables e below (s₁.setTop (mkF m 91 #[.val (.int pk), .val (.int ((pk &&& (2147483647 : Int32)) % (19 : Int32)))] [])) _
                      refine XS.iloadN X0.here hx rfl (hb hby d1_91) rfl ?_
                      show Steps p.tables e below (s₁.setTop (mkF m 92 #[.val (.int pk), .val (.int ((pk &&& (2147483647 : Int32)) % (19 : Int32)))] [(.int ((pk &&& (2147483647 : Int32)) % (19 : Int32)))])) _
                      refine XS.bipush X0.here hx rfl (hb hby d1_92) ?_
                      show Steps p.tables e below (s₁.setTop (mkF m 94 #[.val (.int pk), .val (.int ((pk &&& (2147483647 : Int32)) % (19 : Int32)))] [(.int (9 : Int32)), (.int ((pk &&& (2147483647 : Int32)) % (19 : Int32)))])) _
                      exact kk
                    by_cases hc94_38 : ((pk &&& (2147483647 : Int32)) % (19 : Int32)) = (9 : Int32)
                    · skip
                      have pre39 : ∀ tgt, Steps p.tables e below (s₁.setTop (mkF m 97 #[.val (.int pk), .val (.int ((pk &&& (2147483647 : Int32)) % (19 : Int32)))] [])) tgt → Steps p.tables e below (s₁.setTop (entryFrame m #[(.int pk)] 2)) tgt := by
                        intro tgt kk
                        refine pre37 tgt ?_
                        refine XS.icmpNo X0.here hx rfl (hb hby d1_94) rfl (XT.ii_ne_f hc94_38) ?_
                        show Steps p.tables e below (s₁.setTop (mkF m 97 #[.val (.int pk), .val (.int ((pk &&& (2147483647 : Int32)) % (19 : Int32)))] [])) _
                        exact kk
                      obtain ⟨T40, X40, e40, st40⟩ := getS X0 hx hZ hown (host := "") (hw _ (List.mem_of_getElem? (i := 79) rfl)) Via.refl e0 S_OFFSET_METADATA_TOO_LARGE (g := (mkF m 97 #[.val (.int pk), .val (.int ((pk &&& (2147483647 : Int32)) % (19 : Int32)))] [])) rfl (hb hby d1_97)
                      obtain ⟨fs, hr, hrun, hended, hW, hsame⟩ := X40.leave (v := some (.ref (A 9))) (fun h => by rw [Bd.returns] at h; cases h)
                      refine ⟨_, _, pre39 _ ?_, hrun, hended, _, _, rfl, ?_, ⟨_, rfl⟩, hW, hsame.mono (by decide) (by decide)⟩
                      · skip
                        refine st40 _ ?_
                        show Steps p.tables e below (T40.setTop (mkF m 100 #[.val (.int pk), .val (.int ((pk &&& (2147483647 : Int32)) % (19 : Int32)))] [(.ref (A 9))])) _
                        exact retOut X40 hx Bd.returns rfl (Or.inr (Or.inr (Or.inr (Or.inr ⟨rfl, rfl, rfl⟩)))) (hb hby d1_100) hr
                      · show QPick Z pk A h0 n0 _ T40.heap _
                        rw [e40]
                        exact ⟨by rw [show own_k pk = (9 : Int32) from hc94_38]; rfl, N0, rfl⟩
                    · skip
                      have pre41 : ∀ tgt, Steps p.tables e below (s₁.setTop (mkF m 104 #[.val (.int pk), .val (.int ((pk &&& (2147483647 : Int32)) % (19 : Int32)))] [(.int (10 : Int32)), (.int ((pk &&& (2147483647 : Int32)) % (19 : Int32)))])) tgt → Steps p.tables e below (s₁.setTop (entryFrame m #[(.int pk)] 2)) tgt := by
                        intro tgt kk
                        refine pre37 tgt ?_
                        refine XS.icmpYes X0.here hx rfl (pc0 := 94) (pc' := 101) rfl (hb hby d1_94) rfl (XT.ii_ne_t hc94_38) (by decide) (by decide) ?_
                        show Steps p.tables e below (s₁.setTop (mkF m 101 #[.val (.int pk), .val (.int ((pk &&& (2147483647 : Int32)) % (19 : Int32)))] [])) _
                        refine XS.iloadN X0.here hx rfl (hb hby d1_101) rfl ?_
                        show Steps p.tables e below (s₁.setTop (mkF m 102 #[.val (.int pk), .val (.int ((pk &&& (2147483647 : Int32)) % (19 : Int32)))] [(.int ((pk &&& (2147483647 : Int32)) % (19 : Int32)))])) _
                        refine XS.bipush X0.here hx rfl (hb hby d1_102) ?_
                        show Steps p.tables e below (s₁.setTop (mkF m 104 #[.val (.int pk), .val (.int ((pk &&& (2147483647 : Int32)) % (19 : Int32)))] [(.int (10 : Int32)), (.int ((pk &&& (2147483647 : Int32)) % (19 : Int32)))])) _
                        exact kk
                      by_cases hc104_42 : ((pk &&& (2147483647 : Int32)) % (19 : Int32)) = (10 : Int32)
                      · skip
                        have pre43 : ∀ tgt, Steps p.tables e below (s₁.setTop (mkF m 107 #[.val (.int pk), .val (.int ((pk &&& (2147483647 : Int32)) % (19 : Int32)))] [])) tgt → Steps p.tables e below (s₁.setTop (entryFrame m #[(.int pk)] 2)) tgt := by
                          intro tgt kk
                          refine pre41 tgt ?_
                          refine XS.icmpNo X0.here hx rfl (hb hby d1_104) rfl (XT.ii_ne_f hc104_42) ?_
                          show Steps p.tables e below (s₁.setTop (mkF m 107 #[.val (.int pk), .val (.int ((pk &&& (2147483647 : Int32)) % (19 : Int32)))] [])) _
                          exact kk
                        obtain ⟨T44, X44, e44, st44⟩ := getS X0 hx hZ hown (host := "") (hw _ (List.mem_of_getElem? (i := 105) rfl)) Via.refl e0 S_INVALID_TOPIC (g := (mkF m 107 #[.val (.int pk), .val (.int ((pk &&& (2147483647 : Int32)) % (19 : Int32)))] [])) rfl (hb hby d1_107)
                        obtain ⟨fs, hr, hrun, hended, hW, hsame⟩ := X44.leave (v := some (.ref (A 10))) (fun h => by rw [Bd.returns] at h; cases h)
                        refine ⟨_, _, pre43 _ ?_, hrun, hended, _, _, rfl, ?_, ⟨_, rfl⟩, hW, hsame.mono (by decide) (by decide)⟩
                        · skip
                          refine st44 _ ?_
                          show Steps p.tables e below (T44.setTop (mkF m 110 #[.val (.int pk), .val (.int ((pk &&& (2147483647 : Int32)) % (19 : Int32)))] [(.ref (A 10))])) _
                          exact retOut X44 hx Bd.returns rfl (Or.inr (Or.inr (Or.inr (Or.inr ⟨rfl, rfl, rfl⟩)))) (hb hby d1_110) hr
                        · show QPick Z pk A h0 n0 _ T44.heap _
                          rw [e44]
                          exact ⟨by rw [show own_k pk = (10 : Int32) from hc104_42]; rfl, N0, rfl⟩
                      · skip
                        have pre45 : ∀ tgt, Steps p.tables e below (s₁.setTop (mkF m 114 #[.val (.int pk), .val (.int ((pk &&& (2147483647 : Int32)) % (19 : Int32)))] [(.int (11 : Int32)), (.int ((pk &&& (2147483647 : Int32)) % (19 : Int32)))])) tgt → Steps p.tables e below (s₁.setTop (entryFrame m #[(.int pk)] 2)) tgt := by
                          intro tgt kk
                          refine pre41 tgt ?_
                          refine XS.icmpYes X0.here hx rfl (pc0 := 104) (pc' := 111) rfl (hb hby d1_104) rfl (XT.ii_ne_t hc104_42) (by decide) (by decide) ?_
                          show Steps p.tables e below (s₁.setTop (mkF m 111 #[.val (.int pk), .val (.int ((pk &&& (2147483647 : Int32)) % (19 : Int32)))] [])) _
                          refine XS.iloadN X0.here hx rfl (hb hby d1_111) rfl ?_
                          show Steps p.tables e below (s₁.setTop (mkF m 112 #[.val (.int pk), .val (.int ((pk &&& (2147483647 : Int32)) % (19 : Int32)))] [(.int ((pk &&& (2147483647 : Int32)) % (19 : Int32)))])) _
                          refine XS.bipush X0.here hx rfl (hb hby d1_112) ?_
                          show Steps p.tables e below (s₁.setTop (mkF m 114 #[.val (.int pk), .val (.int ((pk &&& (2147483647 : Int32)) % (19 : Int32)))] [(.int (11 : Int32)), (.int ((pk &&& (2147483647 : Int32)) % (19 : Int32)))])) _
                          exact kk
                        by_cases hc114_46 : ((pk &&& (2147483647 : Int32)) % (19 : Int32)) = (11 : Int32)
                        · skip
                          have pre47 : ∀ tgt, Steps p.tables e below (s₁.setTop (mkF m 117 #[.val (.int pk), .val (.int ((pk &&& (2147483647 : Int32)) % (19 : Int32)))] [])) tgt → Steps p.tables e below (s₁.setTop (entryFrame m #[(.int pk)] 2)) tgt := by
                            intro tgt kk
                            refine pre45 tgt ?_
                            refine XS.icmpNo X0.here hx rfl (hb hby d1_114) rfl (XT.ii_ne_f hc114_46) ?_
                            show Steps p.tables e below (s₁.setTop (mkF m 117 #[.val (.int pk), .val (.int ((pk &&& (2147483647 : Int32)) % (19 : Int32)))] [])) _
                            exact kk
                          obtain ⟨T48, X48, e48, st48⟩ := getS X0 hx hZ hown (host := "") (hw _ (List.mem_of_getElem? (i := 97) rfl)) Via.refl e0 S_INVALID_REQUIRED_ACKS (g := (mkF m 117 #[.val (.int pk), .val (.int ((pk &&& (2147483647 : Int32)) % (19 : Int32)))] [])) rfl (hb hby d1_117)
                          obtain ⟨fs, hr, hrun, hended, hW, hsame⟩ := X48.leave (v := some (.ref (A 11))) (fun h => by rw [Bd.returns] at h; cases h)
                          refine ⟨_, _, pre47 _ ?_, hrun, hended, _, _, rfl, ?_, ⟨_, rfl⟩, hW, hsame.mono (by decide) (by decide)⟩
                          · skip
                            refine st48 _ ?_
                            show Steps p.tables e below (T48.setTop (mkF m 120 #[.val (.int pk), .val (.int ((pk &&& (2147483647 : Int32)) % (19 : Int32)))] [(.ref (A 11))])) _
                            exact retOut X48 hx Bd.returns rfl (Or.inr (Or.inr (Or.inr (Or.inr ⟨rfl, rfl, rfl⟩)))) (hb hby d1_120) hr
                          · show QPick Z pk A h0 n0 _ T48.heap _
                            rw [e48]
                            exact ⟨by rw [show own_k pk = (11 : Int32) from hc114_46]; rfl, N0, rfl⟩
                        · skip
                          have pre49 : ∀ tgt, Steps p.tables e below (s₁.setTop (mkF m 124 #[.val (.int pk), .val (.int ((pk &&& (2147483647 : Int32)) % (19 : Int32)))] [(.int (12 : Int32)), (.int ((pk &&& (2147483647 : Int32)) % (19 : Int32)))])) tgt → Steps p.tables e below (s₁.setTop (entryFrame m #[(.int pk)] 2)) tgt := by
                            intro tgt kk
                            refine pre45 tgt ?_
                            refine XS.icmpYes X0.here hx rfl (pc0 := 114) (pc' := 121) rfl (hb hby d1_114) rfl (XT.ii_ne_t hc114_46) (by decide) (by decide) ?_
                            show Steps p.tables e below (s₁.setTop (mkF m 121 #[.val (.int pk), .val (.int ((pk &&& (2147483647 : Int32)) % (19 : Int32)))] [])) _
                            refine XS.iloadN X0.here hx rfl (hb hby d1_121) rfl ?_
                            show Steps p.tables e below (s₁.setTop (mkF m 122 #[.val (.int pk), .val (.int ((pk &&& (2147483647 : Int32)) % (19 : Int32)))] [(.int ((pk &&& (2147483647 : Int32)) % (19 : Int32)))])) _
                            refine XS.bipush X0.here hx rfl (hb hby d1_122) ?_
                            show Steps p.tables e below (s₁.setTop (mkF m 124 #[.val (.int pk), .val (.int ((pk &&& (2147483647 : Int32)) % (19 : Int32)))] [(.int (12 : Int32)), (.int ((pk &&& (2147483647 : Int32)) % (19 : Int32)))])) _
                            exact kk
                          by_cases hc124_50 : ((pk &&& (2147483647 : Int32)) % (19 : Int32)) = (12 : Int32)
                          · skip
                            have pre51 : ∀ tgt, Steps p.tables e below (s₁.setTop (mkF m 127 #[.val (.int pk), .val (.int ((pk &&& (2147483647 : Int32)) % (19 : Int32)))] [])) tgt → Steps p.tables e below (s₁.setTop (entryFrame m #[(.int pk)] 2)) tgt := by
                              intro tgt kk
                              refine pre49 tgt ?_
                              refine XS.icmpNo X0.here hx rfl (hb hby d1_124) rfl (XT.ii_ne_f hc124_50) ?_
                              show Steps p.tables e below (s₁.setTop (mkF m 127 #[.val (.int pk), .val (.int ((pk &&& (2147483647 : Int32)) % (19 : Int32)))] [])) _
                              exact kk
                            obtain ⟨T52, X52, e52, st52⟩ := getS X0 hx hZ hown (host := "") (hw _ (List.mem_of_getElem? (i := 75) rfl)) Via.refl e0 S_ILLEGAL_GENERATION (g := (mkF m 127 #[.val (.int pk), .val (.int ((pk &&& (2147483647 : Int32)) % (19 : Int32)))] [])) rfl (hb hby d1_127)
                            obtain ⟨fs, hr, hrun, hended, hW, hsame⟩ := X52.leave (v := some (.ref (A 12))) (fun h => by rw [Bd.returns] at h; cases h)
                            refine ⟨_, _, pre51 _ ?_, hrun, hended, _, _, rfl, ?_, ⟨_, rfl⟩, hW, hsame.mono (by decide) (by decide)⟩
                            · skip
                              refine st52 _ ?_
                              show Steps p.tables e below (T52.setTop (mkF m 130 #[.val (.int pk), .val (.int ((pk &&& (2147483647 : Int32)) % (19 : Int32)))] [(.ref (A 12))])) _
                              exact retOut X52 hx Bd.returns rfl (Or.inr (Or.inr (Or.inr (Or.inr ⟨rfl, rfl, rfl⟩)))) (hb hby d1_130) hr
                            · show QPick Z pk A h0 n0 _ T52.heap _
                              rw [e52]
                              exact ⟨by rw [show own_k pk = (12 : Int32) from hc124_50]; rfl, N0, rfl⟩
                          · skip
                            have pre53 : ∀ tgt, Steps p.tables e below (s₁.setTop (mkF m 134 #[.val (.int pk), .val (.int ((pk &&& (2147483647 : Int32)) % (19 : Int32)))] [(.int (13 : Int32)), (.int ((pk &&& (2147483647 : Int32)) % (19 : Int32)))])) tgt → Steps p.tables e below (s₁.setTop (entryFrame m #[(.int pk)] 2)) tgt := by
                              intro tgt kk
                              refine pre49 tgt ?_
                              refine XS.icmpYes X0.here hx rfl (pc0 := 124) (pc' := 131) rfl (hb hby d1_124) rfl (XT.ii_ne_t hc124_50) (by decide) (by decide) ?_
                              show Steps p.tables e below (s₁.setTop (mkF m 131 #[.val (.int pk), .val (.int ((pk &&& (2147483647 : Int32)) % (19 : Int32)))] [])) _
                              refine XS.iloadN X0.here hx rfl (hb hby d1_131) rfl ?_
                              show Steps p.tables e below (s₁.setTop (mkF m 132 #[.val (.int pk), .val (.int ((pk &&& (2147483647 : Int32)) % (19 : Int32)))] [(.int ((pk &&& (2147483647 : Int32)) % (19 : Int32)))])) _
                              refine XS.bipush X0.here hx rfl (hb hby d1_132) ?_
                              show Steps p.tables e below (s₁.setTop (mkF m 134 #[.val (.int pk), .val (.int ((pk &&& (2147483647 : Int32)) % (19 : Int32)))] [(.int (13 : Int32)), (.int ((pk &&& (2147483647 : Int32)) % (19 : Int32)))])) _
                              exact kk
                            by_cases hc134_54 : ((pk &&& (2147483647 : Int32)) % (19 : Int32)) = (13 : Int32)
                            · skip
                              have pre55 : ∀ tgt, Steps p.tables e below (s₁.setTop (mkF m 137 #[.val (.int pk), .val (.int ((pk &&& (2147483647 : Int32)) % (19 : Int32)))] [])) tgt → Steps p.tables e below (s₁.setTop (entryFrame m #[(.int pk)] 2)) tgt := by
                                intro tgt kk
                                refine pre53 tgt ?_
                                refine XS.icmpNo X0.here hx rfl (hb hby d1_134) rfl (XT.ii_ne_f hc134_54) ?_
                                show Steps p.tables e below (s₁.setTop (mkF m 137 #[.val (.int pk), .val (.int ((pk &&& (2147483647 : Int32)) % (19 : Int32)))] [])) _
                                exact kk
                              obtain ⟨T56, X56, e56, st56⟩ := getS X0 hx hZ hown (host := "") (hw _ (List.mem_of_getElem? (i := 93) rfl)) Via.refl e0 S_INCONSISTENT_GROUP_PROTOCOL (g := (mkF m 137 #[.val (.int pk), .val (.int ((pk &&& (2147483647 : Int32)) % (19 : Int32)))] [])) rfl (hb hby d1_137)
                              obtain ⟨fs, hr, hrun, hended, hW, hsame⟩ := X56.leave (v := some (.ref (A 13))) (fun h => by rw [Bd.returns] at h; cases h)
                              refine ⟨_, _, pre55 _ ?_, hrun, hended, _, _, rfl, ?_, ⟨_, rfl⟩, hW, hsame.mono (by decide) (by decide)⟩
                              · skip
                                refine st56 _ ?_
                                show Steps p.tables e below (T56.setTop (mkF m 140 #[.val (.int pk), .val (.int ((pk &&& (2147483647 : Int32)) % (19 : Int32)))] [(.ref (A 13))])) _
                                exact retOut X56 hx Bd.returns rfl (Or.inr (Or.inr (Or.inr (Or.inr ⟨rfl, rfl, rfl⟩)))) (hb hby d1_140) hr
                              · show QPick Z pk A h0 n0 _ T56.heap _
                                rw [e56]
                                exact ⟨by rw [show own_k pk = (13 : Int32) from hc134_54]; rfl, N0, rfl⟩
                            · skip
                              have pre57 : ∀ tgt, Steps p.tables e below (s₁.setTop (mkF m 144 #[.val (.int pk), .val (.int ((pk &&& (2147483647 : Int32)) % (19 : Int32)))] [(.int (14 : Int32)), (.int ((pk &&& (2147483647 : Int32)) % (19 : Int32)))])) tgt → Steps p.tables e below (s₁.setTop (entryFrame m #[(.int pk)] 2)) tgt := by
                                intro tgt kk
                                refine pre53 tgt ?_
                                refine XS.icmpYes X0.here hx rfl (pc0 := 134) (pc' := 141) rfl (hb hby d1_134) rfl (XT.ii_ne_t hc134_54) (by decide) (by decide) ?_
                                show Steps p.tables e below (s₁.setTop (mkF m 141 #[.val (.int pk), .val (.int ((pk &&& (2147483647 : Int32)) % (19 : Int32)))] [])) _
                                refine XS.iloadN X0.here hx rfl (hb hby d1_141) rfl ?_
                                show Steps p.tables e below (s₁.setTop (mkF m 142 #[.val (.int pk), .val (.int ((pk &&& (2147483647 : Int32)) % (19 : Int32)))] [(.int ((pk &&& (2147483647 : Int32)) % (19 : Int32)))])) _
                                refine XS.bipush X0.here hx rfl (hb hby d1_142) ?_
                                show Steps p.tables e below (s₁.setTop (mkF m 144 #[.val (.int pk), .val (.int ((pk &&& (2147483647 : Int32)) % (19 : Int32)))] [(.int (14 : Int32)), (.int ((pk &&& (2147483647 : Int32)) % (19 : Int32)))])) _
                                exact kk
                              by_cases hc144_58 : ((pk &&& (2147483647 : Int32)) % (19 : Int32)) = (14 : Int32)
                              · skip
                                have pre59 : ∀ tgt, Steps p.tables e below (s₁.setTop (mkF m 147 #[.val (.int pk), .val (.int ((pk &&& (2147483647 : Int32)) % (19 : Int32)))] [])) tgt → Steps p.tables e below (s₁.setTop (entryFrame m #[(.int pk)] 2)) tgt := by
                                  intro tgt kk
                                  refine pre57 tgt ?_
                                  refine XS.icmpNo X0.here hx rfl (hb hby d1_144) rfl (XT.ii_ne_f hc144_58) ?_
                                  show Steps p.tables e below (s₁.setTop (mkF m 147 #[.val (.int pk), .val (.int ((pk &&& (2147483647 : Int32)) % (19 : Int32)))] [])) _
                                  exact kk
                                obtain ⟨T60, X60, e60, st60⟩ := getS X0 hx hZ hown (host := "") (hw _ (List.mem_of_getElem? (i := 103) rfl)) Via.refl e0 S_INVALID_GROUP_ID (g := (mkF m 147 #[.val (.int pk), .val (.int ((pk &&& (2147483647 : Int32)) % (19 : Int32)))] [])) rfl (hb hby d1_147)
                                obtain ⟨fs, hr, hrun, hended, hW, hsame⟩ := X60.leave (v := some (.ref (A 14))) (fun h => by rw [Bd.returns] at h; cases h)
                                refine ⟨_, _, pre59 _ ?_, hrun, hended, _, _, rfl, ?_, ⟨_, rfl⟩, hW, hsame.mono (by decide) (by decide)⟩
                                · skip
                                  refine st60 _ ?_
                                  show Steps p.tables e below (T60.setTop (mkF m 150 #[.val (.int pk), .val (.int ((pk &&& (2147483647 : Int32)) % (19 : Int32)))] [(.ref (A 14))])) _
                                  exact retOut X60 hx Bd.returns rfl (Or.inr (Or.inr (Or.inr (Or.inr ⟨rfl, rfl, rfl⟩)))) (hb hby d1_150) hr
                                · show QPick Z pk A h0 n0 _ T60.heap _
                                  rw [e60]
                                  exact ⟨by rw [show own_k pk = (14 : Int32) from hc144_58]; rfl, N0, rfl⟩
                              · skip
                                have pre61 : ∀ tgt, Steps p.tables e below (s₁.setTop (mkF m 154 #[.val (.int pk), .val (.int ((pk &&& (2147483647 : Int32)) % (19 : Int32)))] [(.int (15 : Int32)), (.int ((pk &&& (2147483647 : Int32)) % (19 : Int32)))])) tgt → Steps p.tables e below (s₁.setTop (entryFrame m #[(.int pk)] 2)) tgt := by
                                  intro tgt kk
                                  refine pre57 tgt ?_
                                  refine XS.icmpYes X0.here hx rfl (pc0 := 144) (pc' := 151) rfl (hb hby d1_144) rfl (XT.ii_ne_t hc144_58) (by decide) (by decide) ?_
                                  show Steps p.tables e below (s₁.setTop (mkF m 151 #[.val (.int pk), .val (.int ((pk &&& (2147483647 : Int32)) % (19 : Int32)))] [])) _
                                  refine XS.iloadN X0.here hx rfl (hb hby d1_151) rfl ?_
                                  show Steps p.tables e below (s₁.setTop (mkF m 152 #[.val (.int pk), .val (.int ((pk &&& (2147483647 : Int32)) % (19 : Int32)))] [(.int ((pk &&& (2147483647 : Int32)) % (19 : Int32)))])) _
                                  refine XS.bipush X0.here hx rfl (hb hby d1_152) ?_
                                  show Steps p.tables e below (s₁.setTop (mkF m 154 #[.val (.int pk), .val (.int ((pk &&& (2147483647 : Int32)) % (19 : Int32)))] [(.int (15 : Int32)), (.int ((pk &&& (2147483647 : Int32)) % (19 : Int32)))])) _
                                  exact kk
                                by_cases hc154_62 : ((pk &&& (2147483647 : Int32)) % (19 : Int32)) = (15 : Int32)
                                · skip
                                  have pre63 : ∀ tgt, Steps p.tables e below (s₁.setTop (mkF m 157 #[.val (.int pk), .val (.int ((pk &&& (2147483647 : Int32)) % (19 : Int32)))] [])) tgt → Steps p.tables e below (s₁.setTop (entryFrame m #[(.int pk)] 2)) tgt := by
                                    intro tgt kk
                                    refine pre61 tgt ?_
                                    refine XS.icmpNo X0.here hx rfl (hb hby d1_154) rfl (XT.ii_ne_f hc154_62) ?_
                                    show Steps p.tables e below (s₁.setTop (mkF m 157 #[.val (.int pk), .val (.int ((pk &&& (2147483647 : Int32)) % (19 : Int32)))] [])) _
                                    exact kk
                                  obtain ⟨T64, X64, e64, st64⟩ := getS X0 hx hZ hown (host := "") (hw _ (List.mem_of_getElem? (i := 95) rfl)) Via.refl e0 S_UNKNOWN_MEMBER_ID (g := (mkF m 157 #[.val (.int pk), .val (.int ((pk &&& (2147483647 : Int32)) % (19 : Int32)))] [])) rfl (hb hby d1_157)
                                  obtain ⟨fs, hr, hrun, hended, hW, hsame⟩ := X64.leave (v := some (.ref (A 15))) (fun h => by rw [Bd.returns] at h; cases h)
                                  refine ⟨_, _, pre63 _ ?_, hrun, hended, _, _, rfl, ?_, ⟨_, rfl⟩, hW, hsame.mono (by decide) (by decide)⟩
                                  · skip
                                    refine st64 _ ?_
                                    show Steps p.tables e below (T64.setTop (mkF m 160 #[.val (.int pk), .val (.int ((pk &&& (2147483647 : Int32)) % (19 : Int32)))] [(.ref (A 15))])) _
                                    exact retOut X64 hx Bd.returns rfl (Or.inr (Or.inr (Or.inr (Or.inr ⟨rfl, rfl, rfl⟩)))) (hb hby d1_160) hr
                                  · show QPick Z pk A h0 n0 _ T64.heap _
                                    rw [e64]
                                    exact ⟨by rw [show own_k pk = (15 : Int32) from hc154_62]; rfl, N0, rfl⟩
                                · skip
                                  have pre65 : ∀ tgt, Steps p.tables e below (s₁.setTop (mkF m 164 #[.val (.int pk), .val (.int ((pk &&& (2147483647 : Int32)) % (19 : Int32)))] [(.int (16 : Int32)), (.int ((pk &&& (2147483647 : Int32)) % (19 : Int32)))])) tgt → Steps p.tables e below (s₁.setTop (entryFrame m #[(.int pk)] 2)) tgt := by
                                    intro tgt kk
                                    refine pre61 tgt ?_
                                    refine XS.icmpYes X0.here hx rfl (pc0 := 154) (pc' := 161) rfl (hb hby d1_154) rfl (XT.ii_ne_t hc154_62) (by decide) (by decide) ?_
                                    show Steps p.tables e below (s₁.setTop (mkF m 161 #[.val (.int pk), .val (.int ((pk &&& (2147483647 : Int32)) % (19 : Int32)))] [])) _
                                    refine XS.iloadN X0.here hx rfl (hb hby d1_161) rfl ?_
                                    show Steps p.tables e below (s₁.setTop (mkF m 162 #[.val (.int pk), .val (.int ((pk &&& (2147483647 : Int32)) % (19 : Int32)))] [(.int ((pk &&& (2147483647 : Int32)) % (19 : Int32)))])) _
                                    refine XS.bipush X0.here hx rfl (hb hby d1_162) ?_
                                    show Steps p.tables e below (s₁.setTop (mkF m 164 #[.val (.int pk), .val (.int ((pk &&& (2147483647 : Int32)) % (19 : Int32)))] [(.int (16 : Int32)), (.int ((pk &&& (2147483647 : Int32)) % (19 : Int32)))])) _
                                    exact kk
                                  by_cases hc164_66 : ((pk &&& (2147483647 : Int32)) % (19 : Int32)) = (16 : Int32)
                                  · skip
                                    have pre67 : ∀ tgt, Steps p.tables e below (s₁.setTop (mkF m 167 #[.val (.int pk), .val (.int ((pk &&& (2147483647 : Int32)) % (19 : Int32)))] [])) tgt → Steps p.tables e below (s₁.setTop (entryFrame m #[(.int pk)] 2)) tgt := by
                                      intro tgt kk
                                      refine pre65 tgt ?_
                                      refine XS.icmpNo X0.here hx rfl (hb hby d1_164) rfl (XT.ii_ne_f hc164_66) ?_
                                      show Steps p.tables e below (s₁.setTop (mkF m 167 #[.val (.int pk), .val (.int ((pk &&& (2147483647 : Int32)) % (19 : Int32)))] [])) _
                                      exact kk
                                    obtain ⟨T68, X68, e68, st68⟩ := getS X0 hx hZ hown (host := "") (hw _ (List.mem_of_getElem? (i := 91) rfl)) Via.refl e0 S_INVALID_SESSION_TIMEOUT (g := (mkF m 167 #[.val (.int pk), .val (.int ((pk &&& (2147483647 : Int32)) % (19 : Int32)))] [])) rfl (hb hby d1_167)
                                    obtain ⟨fs, hr, hrun, hended, hW, hsame⟩ := X68.leave (v := some (.ref (A 16))) (fun h => by rw [Bd.returns] at h; cases h)
                                    refine ⟨_, _, pre67 _ ?_, hrun, hended, _, _, rfl, ?_, ⟨_, rfl⟩, hW, hsame.mono (by decide) (by decide)⟩
                                    · skip
                                      refine st68 _ ?_
                                      show Steps p.tables e below (T68.setTop (mkF m 170 #[.val (.int pk), .val (.int ((pk &&& (2147483647 : Int32)) % (19 : Int32)))] [(.ref (A 16))])) _
                                      exact retOut X68 hx Bd.returns rfl (Or.inr (Or.inr (Or.inr (Or.inr ⟨rfl, rfl, rfl⟩)))) (hb hby d1_170) hr
                                    · show QPick Z pk A h0 n0 _ T68.heap _
                                      rw [e68]
                                      exact ⟨by rw [show own_k pk = (16 : Int32) from hc164_66]; rfl, N0, rfl⟩
                                  · skip
                                    have pre69 : ∀ tgt, Steps p.tables e below (s₁.setTop (mkF m 174 #[.val (.int pk), .val (.int ((pk &&& (2147483647 : Int32)) % (19 : Int32)))] [(.int (17 : Int32)), (.int ((pk &&& (2147483647 : Int32)) % (19 : Int32)))])) tgt → Steps p.tables e below (s₁.setTop (entryFrame m #[(.int pk)] 2)) tgt := by
                                      intro tgt kk
                                      refine pre65 tgt ?_
                                      refine XS.icmpYes X0.here hx rfl (pc0 := 164) (pc' := 171) rfl (hb hby d1_164) rfl (XT.ii_ne_t hc164_66) (by decide) (by decide) ?_
                                      show Steps p.tables e below (s₁.setTop (mkF m 171 #[.val (.int pk), .val (.int ((pk &&& (2147483647 : Int32)) % (19 : Int32)))] [])) _
                                      refine XS.iloadN X0.here hx rfl (hb hby d1_171) rfl ?_
                                      show Steps p.tables e below (s₁.setTop (mkF m 172 #[.val (.int pk), .val (.int ((pk &&& (2147483647 : Int32)) % (19 : Int32)))] [(.int ((pk &&& (2147483647 : Int32)) % (19 : Int32)))])) _
                                      refine XS.bipush X0.here hx rfl (hb hby d1_172) ?_
                                      show Steps p.tables e below (s₁.setTop (mkF m 174 #[.val (.int pk), .val (.int ((pk &&& (2147483647 : Int32)) % (19 : Int32)))] [(.int (17 : Int32)), (.int ((pk &&& (2147483647 : Int32)) % (19 : Int32)))])) _
                                      exact kk
                                    by_cases hc174_70 : ((pk &&& (2147483647 : Int32)) % (19 : Int32)) = (17 : Int32)
                                    · skip
                                      have pre71 : ∀ tgt, Steps p.tables e below (s₁.setTop (mkF m 177 #[.val (.int pk), .val (.int ((pk &&& (2147483647 : Int32)) % (19 : Int32)))] [])) tgt → Steps p.tables e below (s₁.setTop (entryFrame m #[(.int pk)] 2)) tgt := by
                                        intro tgt kk
                                        refine pre69 tgt ?_
                                        refine XS.icmpNo X0.here hx rfl (hb hby d1_174) rfl (XT.ii_ne_f hc174_70) ?_
                                        show Steps p.tables e below (s₁.setTop (mkF m 177 #[.val (.int pk), .val (.int ((pk &&& (2147483647 : Int32)) % (19 : Int32)))] [])) _
                                        exact kk
                                      obtain ⟨T72, X72, e72, st72⟩ := getS X0 hx hZ hown (host := "") (hw _ (List.mem_of_getElem? (i := 83) rfl)) Via.refl e0 S_REBALANCE_IN_PROGRESS (g := (mkF m 177 #[.val (.int pk), .val (.int ((pk &&& (2147483647 : Int32)) % (19 : Int32)))] [])) rfl (hb hby d1_177)
                                      obtain ⟨fs, hr, hrun, hended, hW, hsame⟩ := X72.leave (v := some (.ref (A 17))) (fun h => by rw [Bd.returns] at h; cases h)
                                      refine ⟨_, _, pre71 _ ?_, hrun, hended, _, _, rfl, ?_, ⟨_, rfl⟩, hW, hsame.mono (by decide) (by decide)⟩
                                      · skip
                                        refine st72 _ ?_
                                        show Steps p.tables e below (T72.setTop (mkF m 180 #[.val (.int pk), .val (.int ((pk &&& (2147483647 : Int32)) % (19 : Int32)))] [(.ref (A 17))])) _
                                        exact retOut X72 hx Bd.returns rfl (Or.inr (Or.inr (Or.inr (Or.inr ⟨rfl, rfl, rfl⟩)))) (hb hby d1_180) hr
                                      · show QPick Z pk A h0 n0 _ T72.heap _
                                        rw [e72]
                                        exact ⟨by rw [show own_k pk = (17 : Int32) from hc174_70]; rfl, N0, rfl⟩
                                    · skip
                                      have pre73 : ∀ tgt, Steps p.tables e below (s₁.setTop (mkF m 181 #[.val (.int pk), .val (.int ((pk &&& (2147483647 : Int32)) % (19 : Int32)))] [])) tgt → Steps p.tables e below (s₁.setTop (entryFrame m #[(.int pk)] 2)) tgt := by
                                        intro tgt kk
                                        refine pre69 tgt ?_
                                        refine XS.icmpYes X0.here hx rfl (pc0 := 174) (pc' := 181) rfl (hb hby d1_174) rfl (XT.ii_ne_t hc174_70) (by decide) (by decide) ?_
                                        show Steps p.tables e below (s₁.setTop (mkF m 181 #[.val (.int pk), .val (.int ((pk &&& (2147483647 : Int32)) % (19 : Int32)))] [])) _
                                        exact kk
                                      obtain ⟨T74, X74, e74, st74⟩ := getS X0 hx hZ hown (host := "") (hw _ (List.mem_of_getElem? (i := 101) rfl)) Via.refl e0 S_UNSUPPORTED_VERSION (g := (mkF m 181 #[.val (.int pk), .val (.int ((pk &&& (2147483647 : Int32)) % (19 : Int32)))] [])) rfl (hb hby d1_181)
                                      obtain ⟨fs, hr, hrun, hended, hW, hsame⟩ := X74.leave (v := some (.ref (A 18))) (fun h => by rw [Bd.returns] at h; cases h)
                                      refine ⟨_, _, pre73 _ ?_, hrun, hended, _, _, rfl, ?_, ⟨_, rfl⟩, hW, hsame.mono (by decide) (by decide)⟩
                                      · skip
                                        refine st74 _ ?_
                                        show Steps p.tables e below (T74.setTop (mkF m 184 #[.val (.int pk), .val (.int ((pk &&& (2147483647 : Int32)) % (19 : Int32)))] [(.ref (A 18))])) _
                                        exact retOut X74 hx Bd.returns rfl (Or.inr (Or.inr (Or.inr (Or.inr ⟨rfl, rfl, rfl⟩)))) (hb hby d1_184) hr
                                      · show QPick Z pk A h0 n0 _ T74.heap _
                                        rw [e74]
                                        exact ⟨by rw [own_k18 pk hc9_2 hc18_6 hc27_10 hc36_14 hc45_18 hc54_22 hc64_26 hc74_30 hc84_34 hc94_38 hc104_42 hc114_46 hc124_50 hc134_54 hc144_58 hc154_62 hc164_66 hc174_70]; rfl, N0, rfl⟩
theorem d7_0 : decode jdk_37_method_2_code 0 = .ok (.aload_n 0, 1) := by decide +kernel
theorem d7_1 : decode jdk_37_method_2_code 1 = .ok (.getfield 7, 3) := by decide +kernel
theorem d7_4 : decode jdk_37_method_2_code 4 = .ok (.ireturn, 1) := by decide +kernel
theorem pn_7 : plainName "java/lang/Enum" = true := by first | (simp [plainName, overriddenIn]; done) | decide +kernel
theorem ef_rmOrd (m : MethodId) (x0 : Addr) : entryFrame m #[(.ref x0)] 1 = mkF m 0 #[.val (.ref x0)] [] := by first | (simp [entryFrame, mkF, argsToLocals, Value.category]; done) | rfl
def QOrd (Z : State) (a : Addr) (o : Int32) (h0 : Heap) (n0 : Nat) (v : Option Value) (h : Heap) (L : List Loc) : Prop := v = some (.int o) ∧ Fr n0 L ∧ h = h0
set_option maxRecDepth 65536 in
set_option maxHeartbeats 40000000 in
theorem rmOrd (l : Launch) (Z : State) (a0 : Array Value) (hw : ∀ d ∈ tables_1, d.before a0 Z = true) (ws : List Jvm.Cond) (a : Addr) (o : Int32) (h0 : Heap) (n0 : Nat) (Z0 : n0 ≤ h0.size) (F_o : Fld Z h0 a "java/lang/Enum" "ordinal" "I" (.int o)) :
    MetFree l (⟨"java/lang/Enum", "ordinal", "()I"⟩ : MethodName) (head1 (Jvm.Cond.code (⟨"java/lang/Enum", "ordinal", "()I"⟩ : MethodName) jdk_37_method_2_code 1 (some .int) :: ws) ({ frames := 0, cells := 0, slots := 0, locals := 0 } : Room)) (fun ar UU => ar = #[(.ref a)] ∧ Z.Warmed39 UU.vm ∧ UU.heap = h0) (fun _ _ _ _ _ => True) (fun _ UU oo UU' => ∃ vv LL, oo = .returned vv ∧ QOrd Z a o h0 n0 vv UU'.heap LL ∧ FrameEnd UU oo UU' LL ({ frames := 0, cells := 0, slots := 0, locals := 0 } : Room).cells ({ frames := 0, cells := 0, slots := 0, locals := 0 } : Room).slots) := by
  refine MetFree.of_bodySF (plainFor_of_name pn_7) hisR ?_
  intro p e s m args below meth c s₁ Bd hml0 hP hK
  obtain ⟨rfl, hZ, hh⟩ := hP
  have hx := Bd.exec
  have hby := Bd.bytes
  have hml : c.maxLocals = 1 := hml0
  have hown : s.vm.findClass "java/lang/Enum" = some m.cls := findClass_of_methodNamed Bd.named
  have hnm := (name_of_methodNamed Bd.named Bd.method).1
  have X0 : Stand p l e ({ frames := 0, cells := 0, slots := 0, locals := 0 } : Room) s m #[(.ref a)] below meth c s₁ [] 0 0 := Stand.of_body Bd
  have e0 : s₁.heap = h0 := by rw [← hh, Bd.state]; rfl
  have N0 := Fr.nil n0
  have KC0 : Keep h0 h0 [] := Keep.refl h0 []
  have pre0 : ∀ tgt, Steps p.tables e below (s₁.setTop (mkF m 0 #[.val (.ref a)] [])) tgt → Steps p.tables e below (s₁.setTop (entryFrame m #[(.ref a)] 1)) tgt := fun tgt kk => castTop (ef_rmOrd m (a)) kk
  have pre1 : ∀ tgt, Steps p.tables e below (s₁.setTop (mkF m 1 #[.val (.ref a)] [(.ref a)])) tgt → Steps p.tables e below (s₁.setTop (entryFrame m #[(.ref a)] 1)) tgt := by
    intro tgt kk
    refine pre0 tgt ?_
    refine XS.aloadN X0.here hx rfl (hb hby d7_0) rfl rfl ?_
    show Steps p.tables e below (s₁.setTop (mkF m 1 #[.val (.ref a)] [(.ref a)])) _
    exact kk
  obtain ⟨T2, X2, e2, st2⟩ := getF X0 hx hZ hown (host := "") (Or.inl (hw _ (List.mem_of_getElem? (i := 51) rfl))) Via.refl e0 F_o (g := (mkF m 1 #[.val (.ref a)] [(.ref a)])) rfl rfl (hb hby d7_1)
  obtain ⟨fs, hr, hrun, hended, hW, hsame⟩ := X2.leave (v := some (.int o)) (fun h => by rw [Bd.returns] at h; cases h)
  refine ⟨_, _, pre1 _ ?_, hrun, hended, _, _, rfl, ?_, ⟨_, rfl⟩, hW, hsame.mono (by decide) (by decide)⟩
  · skip
    refine st2 _ ?_
    show Steps p.tables e below (T2.setTop (mkF m 4 #[.val (.ref a)] [(.int o)])) _
    exact retI X2 hx Bd.returns (hb hby d7_4) hr
  · show QOrd Z a o h0 n0 _ T2.heap _
    rw [e2]
    exact ⟨rfl, N0, rfl⟩
theorem d11_0 : decode jdk_41_method_11_code 0 = .ok (.iload_n 0, 1) := by decide +kernel
theorem d11_1 : decode jdk_41_method_11_code 1 = .ok (.ifCond .lt 8, 3) := by decide +kernel
theorem d11_4 : decode jdk_41_method_11_code 4 = .ok (.iload_n 0, 1) := by decide +kernel
theorem d11_5 : decode jdk_41_method_11_code 5 = .ok (.iload_n 1, 1) := by decide +kernel
theorem d11_6 : decode jdk_41_method_11_code 6 = .ok (.if_icmp .lt 10, 3) := by decide +kernel
theorem d11_16 : decode jdk_41_method_11_code 16 = .ok (.iload_n 0, 1) := by decide +kernel
theorem d11_17 : decode jdk_41_method_11_code 17 = .ok (.ireturn, 1) := by decide +kernel
theorem pn_11 : plainName "jdk/internal/util/Preconditions" = true := by first | (simp [plainName, overriddenIn]; done) | decide +kernel
theorem ef_rmPre (m : MethodId) (x0 : Int32) (x1 : Int32) : entryFrame m #[(.int x0), (.int x1), .null] 3 = mkF m 0 #[.val (.int x0), .val (.int x1), .val .null] [] := by first | (simp [entryFrame, mkF, argsToLocals, Value.category]; done) | rfl
def QPre (Z : State) (i : Int32) (n : Int32) (h0 : Heap) (n0 : Nat) (v : Option Value) (h : Heap) (L : List Loc) : Prop := v = some (.int i) ∧ Fr n0 L ∧ h = h0
set_option maxRecDepth 65536 in
set_option maxHeartbeats 40000000 in
theorem rmPre (l : Launch) (Z : State) (a0 : Array Value) (hw : ∀ d ∈ tables_1, d.before a0 Z = true) (ws : List Jvm.Cond) (i : Int32) (n : Int32) (h0 : Heap) (n0 : Nat) (Z0 : n0 ≤ h0.size) (hi : ¬ i < 0) (hl : i < n) :
    MetFree l (⟨"jdk/internal/util/Preconditions", "checkIndex", "(IILjava/util/function/BiFunction;)I"⟩ : MethodName) (head1 (Jvm.Cond.code (⟨"jdk/internal/util/Preconditions", "checkIndex", "(IILjava/util/function/BiFunction;)I"⟩ : MethodName) jdk_41_method_11_code 3 (some .int) :: ws) ({ frames := 0, cells := 0, slots := 0, locals := 0 } : Room)) (fun ar UU => ar = #[(.int i), (.int n), .null] ∧ Z.Warmed39 UU.vm ∧ UU.heap = h0) (fun _ _ _ _ _ => True) (fun _ UU oo UU' => ∃ vv LL, oo = .returned vv ∧ QPre Z i n h0 n0 vv UU'.heap LL ∧ FrameEnd UU oo UU' LL ({ frames := 0, cells := 0, slots := 0, locals := 0 } : Room).cells ({ frames := 0, cells := 0, slots := 0, locals := 0 } : Room).slots) := by
  refine MetFree.of_bodySF (plainFor_of_name pn_11) hisR ?_
  intro p e s m args below meth c s₁ Bd hml0 hP hK
  obtain ⟨rfl, hZ, hh⟩ := hP
  have hx := Bd.exec
  have hby := Bd.bytes
  have hml : c.maxLocals = 3 := hml0
  have hown : s.vm.findClass "jdk/internal/util/Preconditions" = some m.cls := findClass_of_methodNamed Bd.named
  have hnm := (name_of_methodNamed Bd.named Bd.method).1
  have X0 : Stand p l e ({ frames := 0, cells := 0, slots := 0, locals := 0 } : Room) s m #[(.int i), (.int n), .null] below meth c s₁ [] 0 0 := Stand.of_body Bd
  have e0 : s₁.heap = h0 := by rw [← hh, Bd.state]; rfl
  have N0 := Fr.nil n0
  have KC0 : Keep h0 h0 [] := Keep.refl h0 []
  have pre0 : ∀ tgt, Steps p.tables e below (s₁.setTop (mkF m 0 #[.val (.int i), .val (.int n), .val .null] [])) tgt → Steps p.tables e below (s₁.setTop (entryFrame m #[(.int i), (.int n), .null] 3)) tgt := fun tgt kk => castTop (ef_rmPre m (i) (n)) kk
  have hk1 : ¬ (i < (0 : Int32)) := hi
  have hk2 : i < n := hl
  obtain ⟨fs, hr, hrun, hended, hW, hsame⟩ := X0.leave (v := some (.int i)) (fun h => by rw [Bd.returns] at h; cases h)
  refine ⟨_, _, pre0 _ ?_, hrun, hended, _, _, rfl, ?_, ⟨_, rfl⟩, hW, hsame.mono (by decide) (by decide)⟩
  · skip
    refine XS.iloadN X0.here hx rfl (hb hby d11_0) rfl ?_
    show Steps p.tables e below (s₁.setTop (mkF m 1 #[.val (.int i), .val (.int n), .val .null] [(.int i)])) _
    refine XS.ifNo X0.here hx rfl (hb hby d11_1) rfl (XT.i0_lt_f hk1) ?_
    show Steps p.tables e below (s₁.setTop (mkF m 4 #[.val (.int i), .val (.int n), .val .null] [])) _
    refine XS.iloadN X0.here hx rfl (hb hby d11_4) rfl ?_
    show Steps p.tables e below (s₁.setTop (mkF m 5 #[.val (.int i), .val (.int n), .val .null] [(.int i)])) _
    refine XS.iloadN X0.here hx rfl (hb hby d11_5) rfl ?_
    show Steps p.tables e below (s₁.setTop (mkF m 6 #[.val (.int i), .val (.int n), .val .null] [(.int n), (.int i)])) _
    refine XS.icmpYes X0.here hx rfl (pc0 := 6) (pc' := 16) rfl (hb hby d11_6) rfl (XT.ii_lt_t hk2) (by decide) (by decide) ?_
    show Steps p.tables e below (s₁.setTop (mkF m 16 #[.val (.int i), .val (.int n), .val .null] [])) _
    refine XS.iloadN X0.here hx rfl (hb hby d11_16) rfl ?_
    show Steps p.tables e below (s₁.setTop (mkF m 17 #[.val (.int i), .val (.int n), .val .null] [(.int i)])) _
    exact retI X0 hx Bd.returns (hb hby d11_17) hr
  · show QPre Z i n h0 n0 _ s₁.heap _
    rw [e0]
    exact ⟨rfl, N0, rfl⟩
theorem d10_0 : decode jdk_31_method_17_code 0 = .ok (.iload_n 0, 1) := by decide +kernel
theorem d10_1 : decode jdk_31_method_17_code 1 = .ok (.iload_n 1, 1) := by decide +kernel
theorem d10_2 : decode jdk_31_method_17_code 2 = .ok (.aconst_null, 1) := by decide +kernel
theorem d10_3 : decode jdk_31_method_17_code 3 = .ok (.invokestatic 105, 3) := by decide +kernel
theorem d10_6 : decode jdk_31_method_17_code 6 = .ok (.ireturn, 1) := by decide +kernel
theorem pn_10 : plainName "java/util/Objects" = true := by first | (simp [plainName, overriddenIn]; done) | decide +kernel
theorem pd__IILjava_util_function_BiFunction__I : parseMethodDescriptor "(IILjava/util/function/BiFunction;)I" = some ⟨[.int, .int, (.object "java/util/function/BiFunction")], some .int⟩ := by decide +kernel
theorem ef_rmObj (m : MethodId) (x0 : Int32) (x1 : Int32) : entryFrame m #[(.int x0), (.int x1)] 2 = mkF m 0 #[.val (.int x0), .val (.int x1)] [] := by first | (simp [entryFrame, mkF, argsToLocals, Value.category]; done) | rfl
def QObj (Z : State) (i : Int32) (n : Int32) (h0 : Heap) (n0 : Nat) (v : Option Value) (h : Heap) (L : List Loc) : Prop := v = some (.int i) ∧ Fr n0 L ∧ h = h0
set_option maxRecDepth 65536 in
set_option maxHeartbeats 40000000 in
theorem rmObj (l : Launch) (Z : State) (a0 : Array Value) (hw : ∀ d ∈ tables_1, d.before a0 Z = true) (ws : List Jvm.Cond) (i : Int32) (n : Int32) (h0 : Heap) (n0 : Nat) (Z0 : n0 ≤ h0.size) (hi : ¬ i < 0) (hl : i < n) :
    MetFree l (⟨"java/util/Objects", "checkIndex", "(II)I"⟩ : MethodName) (head1 (Jvm.Cond.code (⟨"java/util/Objects", "checkIndex", "(II)I"⟩ : MethodName) jdk_31_method_17_code 2 (some .int) :: ws) ({ frames := 1, cells := 0, slots := 0, locals := 14 } : Room)) (fun ar UU => ar = #[(.int i), (.int n)] ∧ Z.Warmed39 UU.vm ∧ UU.heap = h0) (fun _ _ _ _ _ => True) (fun _ UU oo UU' => ∃ vv LL, oo = .returned vv ∧ QObj Z i n h0 n0 vv UU'.heap LL ∧ FrameEnd UU oo UU' LL ({ frames := 1, cells := 0, slots := 0, locals := 14 } : Room).cells ({ frames := 1, cells := 0, slots := 0, locals := 14 } : Room).slots) := by
  refine MetFree.of_bodySF (plainFor_of_name pn_10) hisR ?_
  intro p e s m args below meth c s₁ Bd hml0 hP hK
  obtain ⟨rfl, hZ, hh⟩ := hP
  have hx := Bd.exec
  have hby := Bd.bytes
  have hml : c.maxLocals = 2 := hml0
  have hown : s.vm.findClass "java/util/Objects" = some m.cls := findClass_of_methodNamed Bd.named
  have hnm := (name_of_methodNamed Bd.named Bd.method).1
  have X0 : Stand p l e ({ frames := 1, cells := 0, slots := 0, locals := 14 } : Room) s m #[(.int i), (.int n)] below meth c s₁ [] 0 0 := Stand.of_body Bd
  have e0 : s₁.heap = h0 := by rw [← hh, Bd.state]; rfl
  have N0 := Fr.nil n0
  have KC0 : Keep h0 h0 [] := Keep.refl h0 []
  have pre0 : ∀ tgt, Steps p.tables e below (s₁.setTop (mkF m 0 #[.val (.int i), .val (.int n)] [])) tgt → Steps p.tables e below (s₁.setTop (entryFrame m #[(.int i), (.int n)] 2)) tgt := fun tgt kk => castTop (ef_rmObj m (i) (n)) kk
  have pre1 : ∀ tgt, Steps p.tables e below (s₁.setTop (mkF m 3 #[.val (.int i), .val (.int n)] [.null, (.int n), (.int i)])) tgt → Steps p.tables e below (s₁.setTop (entryFrame m #[(.int i), (.int n)] 2)) tgt := by
    intro tgt kk
    refine pre0 tgt ?_
    refine XS.iloadN X0.here hx rfl (hb hby d10_0) rfl ?_
    show Steps p.tables e below (s₁.setTop (mkF m 1 #[.val (.int i), .val (.int n)] [(.int i)])) _
    refine XS.iloadN X0.here hx rfl (hb hby d10_1) rfl ?_
    show Steps p.tables e below (s₁.setTop (mkF m 2 #[.val (.int i), .val (.int n)] [(.int n), (.int i)])) _
    refine XS.aconstNull X0.here hx rfl (hb hby d10_2) ?_
    show Steps p.tables e below (s₁.setTop (mkF m 3 #[.val (.int i), .val (.int n)] [.null, (.int n), (.int i)])) _
    exact kk
  obtain ⟨_, _, ⟨T2, L2, k2, n2⟩, -, X2, ⟨Lc2, hQ2, l2, y2, z2⟩, st2⟩ := Jvm.LawKit.callS X0 hx (y := (⟨"jdk/internal/util/Preconditions", "checkIndex", "(IILjava/util/function/BiFunction;)I"⟩ : MethodName)) hown (mvT hZ (hw _ (List.mem_of_getElem? (i := 69) rfl))) (mvT hZ (hw _ (List.mem_of_getElem? (i := 70) rfl))) (mvT hZ (hw _ (List.mem_of_getElem? (i := 71) rfl))) (mvT hZ (hw _ (List.mem_of_getElem? (i := 72) rfl))) (by decide) (backOf (W := 0) (rmPre l Z a0 hw [] (i) (n) h0 n0 Z0 hi hl) hZ (hw _ (List.mem_of_getElem? (i := 72) rfl)) (hw _ (List.mem_of_getElem? (i := 71) rfl)) (by decide) (by decide)) (g := (mkF m 3 #[.val (.int i), .val (.int n)] [.null, (.int n), (.int i)])) rfl (by rw [hml]; rfl) (argsL := [(.int i), (.int n), .null]) (rest := []) (lenOf pd__IILjava_util_function_BiFunction__I rfl) rfl (by show 2 * 0 + _ ≤ _; exact Nat.le_of_eq rfl) (hb hby d10_3) (fun _ _ => ⟨rfl, e0, (by decide : 0 + 0 ≤ _), (by decide : 0 + 0 ≤ _)⟩)
  dsimp only [Pt.U, Pt.locs, Pt.cells, Pt.slots] at X2 l2 y2 z2 st2 hQ2
  subst l2 y2 z2
  obtain ⟨rfl, N2q, hh2⟩ := hQ2
  have N2 := Fr.app N0 N2q
  obtain ⟨fs, hr, hrun, hended, hW, hsame⟩ := X2.leave (v := some (.int i)) (fun h => by rw [Bd.returns] at h; cases h)
  refine ⟨_, _, pre1 _ ?_, hrun, hended, _, _, rfl, ?_, ⟨_, rfl⟩, hW, hsame.mono (by decide) (by decide)⟩
  · skip
    refine st2 _ ?_
    show Steps p.tables e below (T2.setTop (mkF m 6 #[.val (.int i), .val (.int n)] [(.int i)])) _
    exact retI X2 hx Bd.returns (hb hby d10_6) hr
  · show QObj Z i n h0 n0 _ T2.heap _
    rw [hh2]
    exact ⟨rfl, N2, rfl⟩
theorem d4_0 : decode jdk_22_method_1_code 0 = .ok (.aload_n 0, 1) := by decide +kernel
theorem d4_1 : decode jdk_22_method_1_code 1 = .ok (.invokespecial 1, 3) := by decide +kernel
theorem d4_4 : decode jdk_22_method_1_code 4 = .ok (.return_, 1) := by decide +kernel
theorem pn_4 : plainName "java/util/AbstractCollection" = true := by first | (simp [plainName, overriddenIn]; done) | decide +kernel
theorem ef_rmAC (m : MethodId) (x0 : Addr) : entryFrame m #[(.ref x0)] 1 = mkF m 0 #[.val (.ref x0)] [] := by first | (simp [entryFrame, mkF, argsToLocals, Value.category]; done) | rfl
def QAC (Z : State) (a : Addr) (h0 : Heap) (n0 : Nat) (v : Option Value) (h : Heap) (L : List Loc) : Prop := v = none ∧ Fr n0 L ∧ h = h0
set_option maxRecDepth 65536 in
set_option maxHeartbeats 40000000 in
theorem rmAC (l : Launch) (Z : State) (a0 : Array Value) (hw : ∀ d ∈ tables_1, d.before a0 Z = true) (ws : List Jvm.Cond) (a : Addr) (h0 : Heap) (n0 : Nat) (Z0 : n0 ≤ h0.size) :
    MetFree l (⟨"java/util/AbstractCollection", "<init>", "()V"⟩ : MethodName) (head1 (Jvm.Cond.code (⟨"java/util/AbstractCollection", "<init>", "()V"⟩ : MethodName) jdk_22_method_1_code 1 none :: ws) ({ frames := 1, cells := 0, slots := 0, locals := 12 } : Room)) (fun ar UU => ar = #[(.ref a)] ∧ Z.Warmed39 UU.vm ∧ UU.heap = h0) (fun _ _ _ _ _ => True) (fun _ UU oo UU' => ∃ vv LL, oo = .returned vv ∧ QAC Z a h0 n0 vv UU'.heap LL ∧ FrameEnd UU oo UU' LL ({ frames := 1, cells := 0, slots := 0, locals := 12 } : Room).cells ({ frames := 1, cells := 0, slots := 0, locals := 12 } : Room).slots) := by
  refine MetFree.of_bodySF (plainFor_of_name pn_4) hisR ?_
  intro p e s m args below meth c s₁ Bd hml0 hP hK
  obtain ⟨rfl, hZ, hh⟩ := hP
  have hx := Bd.exec
  have hby := Bd.bytes
  have hml : c.maxLocals = 1 := hml0
  have hown : s.vm.findClass "java/util/AbstractCollection" = some m.cls := findClass_of_methodNamed Bd.named
  have hnm := (name_of_methodNamed Bd.named Bd.method).1
  have X0 : Stand p l e ({ frames := 1, cells := 0, slots := 0, locals := 12 } : Room) s m #[(.ref a)] below meth c s₁ [] 0 0 := Stand.of_body Bd
  have e0 : s₁.heap = h0 := by rw [← hh, Bd.state]; rfl
  have N0 := Fr.nil n0
  have KC0 : Keep h0 h0 [] := Keep.refl h0 []
  have pre0 : ∀ tgt, Steps p.tables e below (s₁.setTop (mkF m 0 #[.val (.ref a)] [])) tgt → Steps p.tables e below (s₁.setTop (entryFrame m #[(.ref a)] 1)) tgt := fun tgt kk => castTop (ef_rmAC m (a)) kk
  have pre1 : ∀ tgt, Steps p.tables e below (s₁.setTop (mkF m 1 #[.val (.ref a)] [(.ref a)])) tgt → Steps p.tables e below (s₁.setTop (entryFrame m #[(.ref a)] 1)) tgt := by
    intro tgt kk
    refine pre0 tgt ?_
    refine XS.aloadN X0.here hx rfl (hb hby d4_0) rfl rfl ?_
    show Steps p.tables e below (s₁.setTop (mkF m 1 #[.val (.ref a)] [(.ref a)])) _
    exact kk
  obtain ⟨T2, X2, e2, st2⟩ := initO X0 hx hZ hown (hw _ (List.mem_of_getElem? (i := 29) rfl)) (hw _ (List.mem_of_getElem? (i := 30) rfl)) (hw _ (List.mem_of_getElem? (i := 31) rfl)) e0 (g := (mkF m 1 #[.val (.ref a)] [(.ref a)])) rfl (by rw [hml]; rfl) rfl (hb hby d4_1) (by decide) (W := 0) (by show 2 * 0 + _ ≤ _; exact Nat.le_of_eq rfl) (by decide)
  obtain ⟨fs, hr, hrun, hended, hW, hsame⟩ := X2.leave (v := none) (fun _ => rfl)
  refine ⟨_, _, pre1 _ ?_, hrun, hended, _, _, rfl, ?_, ⟨_, rfl⟩, hW, hsame.mono (by decide) (by decide)⟩
  · skip
    refine st2 _ ?_
    show Steps p.tables e below (T2.setTop (mkF m 4 #[.val (.ref a)] [])) _
    exact X2.returnOut hx Bd.returns (hb hby d4_4) hr
  · show QAC Z a h0 n0 _ T2.heap _
    rw [e2]
    exact ⟨rfl, N0, rfl⟩
theorem d3_0 : decode jdk_39_method_1_code 0 = .ok (.aload_n 0, 1) := by decide +kernel
theorem d3_1 : decode jdk_39_method_1_code 1 = .ok (.invokespecial 1, 3) := by decide +kernel
theorem d3_4 : decode jdk_39_method_1_code 4 = .ok (.aload_n 0, 1) := by decide +kernel
theorem d3_5 : decode jdk_39_method_1_code 5 = .ok (.iconst 0, 1) := by decide +kernel
theorem d3_6 : decode jdk_39_method_1_code 6 = .ok (.putfield 7, 3) := by decide +kernel
theorem d3_9 : decode jdk_39_method_1_code 9 = .ok (.return_, 1) := by decide +kernel
theorem pn_3 : plainName "java/util/AbstractList" = true := by first | (simp [plainName, overriddenIn]; done) | decide +kernel
theorem pd___V : parseMethodDescriptor "()V" = some ⟨[], none⟩ := by decide +kernel
theorem ef_rmAL (m : MethodId) (x0 : Addr) : entryFrame m #[(.ref x0)] 1 = mkF m 0 #[.val (.ref x0)] [] := by first | (simp [entryFrame, mkF, argsToLocals, Value.category]; done) | rfl
def QAL (Z : State) (a : Addr) (h0 : Heap) (n0 : Nat) (v : Option Value) (h : Heap) (L : List Loc) : Prop := v = none ∧ Fr n0 L ∧ Keep h0 h [a] ∧ Fld Z h a "java/util/AbstractList" "modCount" "I" (.int (0 : Int32)) ∧ Fld Z h a "com/example/message_ledger/messageledger/requests/ErrorCodeList" "ordinals" "[B" .null ∧ Fld Z h a "com/example/message_ledger/messageledger/requests/ErrorCodeList" "size" "I" (.int (0 : Int32))
set_option maxRecDepth 65536 in
set_option maxHeartbeats 40000000 in
theorem rmAL (l : Launch) (Z : State) (a0 : Array Value) (hw : ∀ d ∈ tables_1, d.before a0 Z = true) (ws : List Jvm.Cond) (a : Addr) (h0 : Heap) (n0 : Nat) (Z0 : n0 ≤ h0.size) (E_a : Exa Z h0 a "com/example/message_ledger/messageledger/requests/ErrorCodeList") (F_m : Fld Z h0 a "java/util/AbstractList" "modCount" "I" (.int (0 : Int32))) (F_o : Fld Z h0 a "com/example/message_ledger/messageledger/requests/ErrorCodeList" "ordinals" "[B" .null) (F_s : Fld Z h0 a "com/example/message_ledger/messageledger/requests/ErrorCodeList" "size" "I" (.int (0 : Int32))) (g_a : n0 ≤ a) :
    MetFree l (⟨"java/util/AbstractList", "<init>", "()V"⟩ : MethodName) (head1 (Jvm.Cond.code (⟨"java/util/AbstractList", "<init>", "()V"⟩ : MethodName) jdk_39_method_1_code 1 none :: ws) ({ frames := 2, cells := 0, slots := 0, locals := 24 } : Room)) (fun ar UU => ar = #[(.ref a)] ∧ Z.Warmed39 UU.vm ∧ UU.heap = h0) (fun _ _ _ _ _ => True) (fun _ UU oo UU' => ∃ vv LL, oo = .returned vv ∧ QAL Z a h0 n0 vv UU'.heap LL ∧ FrameEnd UU oo UU' LL ({ frames := 2, cells := 0, slots := 0, locals := 24 } : Room).cells ({ frames := 2, cells := 0, slots := 0, locals := 24 } : Room).slots) := by
  refine MetFree.of_bodySF (plainFor_of_name pn_3) hisR ?_
  intro p e s m args below meth c s₁ Bd hml0 hP hK
  obtain ⟨rfl, hZ, hh⟩ := hP
  have hx := Bd.exec
  have hby := Bd.bytes
  have hml : c.maxLocals = 1 := hml0
  have hown : s.vm.findClass "java/util/AbstractList" = some m.cls := findClass_of_methodNamed Bd.named
  have hnm := (name_of_methodNamed Bd.named Bd.method).1
  have X0 : Stand p l e ({ frames := 2, cells := 0, slots := 0, locals := 24 } : Room) s m #[(.ref a)] below meth c s₁ [] 0 0 := Stand.of_body Bd
  have e0 : s₁.heap = h0 := by rw [← hh, Bd.state]; rfl
  have N0 := Fr.nil n0
  have KC0 : Keep h0 h0 [a] := Keep.refl h0 [a]
  have pre0 : ∀ tgt, Steps p.tables e below (s₁.setTop (mkF m 0 #[.val (.ref a)] [])) tgt → Steps p.tables e below (s₁.setTop (entryFrame m #[(.ref a)] 1)) tgt := fun tgt kk => castTop (ef_rmAL m (a)) kk
  have pre1 : ∀ tgt, Steps p.tables e below (s₁.setTop (mkF m 1 #[.val (.ref a)] [(.ref a)])) tgt → Steps p.tables e below (s₁.setTop (entryFrame m #[(.ref a)] 1)) tgt := by
    intro tgt kk
    refine pre0 tgt ?_
    refine XS.aloadN X0.here hx rfl (hb hby d3_0) rfl rfl ?_
    show Steps p.tables e below (s₁.setTop (mkF m 1 #[.val (.ref a)] [(.ref a)])) _
    exact kk
  obtain ⟨_, _, ⟨T2, L2, k2, n2⟩, -, X2, ⟨Lc2, hQ2, l2, y2, z2⟩, st2⟩ := X0.specialBack hx (y := (⟨"java/util/AbstractCollection", "<init>", "()V"⟩ : MethodName)) rfl hown (mvT hZ (hw _ (List.mem_of_getElem? (i := 23) rfl))) (mvT hZ (hw _ (List.mem_of_getElem? (i := 24) rfl))) (mvT hZ (hw _ (List.mem_of_getElem? (i := 28) rfl))) (by decide) (backOf (W := 0) (rmAC l Z a0 hw [] a h0 n0 Z0) hZ (hw _ (List.mem_of_getElem? (i := 28) rfl)) (hw _ (List.mem_of_getElem? (i := 27) rfl)) (by decide) (by decide)) (g := (mkF m 1 #[.val (.ref a)] [(.ref a)])) rfl (by rw [hml]; rfl) (Steps.refl _) (a := a) (argsL := []) (rest := []) (lenOf pd___V rfl) rfl (by show 2 * 0 + _ ≤ _; exact Nat.le_of_eq rfl) (hb hby d3_1) (fun _ _ => ⟨rfl, e0, (by decide : 0 + 0 ≤ _), (by decide : 0 + 0 ≤ _)⟩)
  dsimp only [Pt.U, Pt.locs, Pt.cells, Pt.slots] at X2 l2 y2 z2 st2 hQ2
  subst l2 y2 z2
  obtain ⟨rfl, N2q, hh2⟩ := hQ2
  have N2 := Fr.app N0 N2q
  have pre3 : ∀ tgt, Steps p.tables e below (T2.setTop (mkF m 6 #[.val (.ref a)] [(.int (0 : Int32)), (.ref a)])) tgt → Steps p.tables e below (s₁.setTop (entryFrame m #[(.ref a)] 1)) tgt := by
    intro tgt kk
    refine pre1 tgt ?_
    refine st2.trans ?_
    show Steps p.tables e below (T2.setTop (mkF m 4 #[.val (.ref a)] [])) _
    refine XS.aloadN X2.here hx rfl (hb hby d3_4) rfl rfl ?_
    show Steps p.tables e below (T2.setTop (mkF m 5 #[.val (.ref a)] [(.ref a)])) _
    refine XS.iconst X2.here hx rfl (hb hby d3_5) ?_
    show Steps p.tables e below (T2.setTop (mkF m 6 #[.val (.ref a)] [(.int (0 : Int32)), (.ref a)])) _
    exact kk
  obtain ⟨T4, h4, X4, e4, W4, st4⟩ := putF X2 hx hZ hown (host := "") (Or.inl (hw _ (List.mem_of_getElem? (i := 32) rfl))) Via.refl hh2 F_m E_a (Or.inl (hw _ (List.mem_of_getElem? (i := 33) rfl))) (hw _ (List.mem_of_getElem? (i := 13) rfl)) (ty := .int) (by decide) rfl rfl (g := (mkF m 6 #[.val (.ref a)] [(.int (0 : Int32)), (.ref a)])) rfl rfl (hb hby d3_6)
  have N4 := Fr.snoc X4 N2 g_a
  have Fq4 : Fld Z h4 a "java/util/AbstractList" "modCount" "I" (.int (0 : Int32)) := F_m.same W4
  have E_a : Exa Z h4 a "com/example/message_ledger/messageledger/requests/ErrorCodeList" := E_a.wr W4
  have F_o : Fld Z h4 a "com/example/message_ledger/messageledger/requests/ErrorCodeList" "ordinals" "[B" .null := F_o.other W4 (Or.inr (slot_ne (Or.inr (hw _ (List.mem_of_getElem? (i := 36) rfl))) (Or.inl (hw _ (List.mem_of_getElem? (i := 33) rfl))) (by decide) (t := (.array .byte)) (t' := .int) (by decide) (by decide)))
  have F_s : Fld Z h4 a "com/example/message_ledger/messageledger/requests/ErrorCodeList" "size" "I" (.int (0 : Int32)) := F_s.other W4 (Or.inr (slot_ne (Or.inl (hw _ (List.mem_of_getElem? (i := 43) rfl))) (Or.inl (hw _ (List.mem_of_getElem? (i := 33) rfl))) (by decide) (t := .int) (t' := .int) (by decide) (by decide)))
  have Zs5 : n0 ≤ h4.size := Nat.le_trans Z0 (Keep.of_wr W4).1
  have KC5 : Keep h0 h4 [a] := KC0.wr W4 (Or.inl (List.mem_of_getElem? (i := 0) rfl))
  have F_m := Fq4
  obtain ⟨fs, hr, hrun, hended, hW, hsame⟩ := X4.leave (v := none) (fun _ => rfl)
  refine ⟨_, _, pre3 _ ?_, hrun, hended, _, _, rfl, ?_, ⟨_, rfl⟩, hW, hsame.mono (by decide) (by decide)⟩
  · skip
    refine st4 _ ?_
    show Steps p.tables e below (T4.setTop (mkF m 9 #[.val (.ref a)] [])) _
    exact X4.returnOut hx Bd.returns (hb hby d3_9) hr
  · show QAL Z a h0 n0 _ T4.heap _
    rw [e4]
    exact ⟨rfl, N4, KC5, F_m, F_o, F_s⟩
theorem d2_0 : decode prog_61_method_1_code 0 = .ok (.aload_n 0, 1) := by decide +kernel
theorem d2_1 : decode prog_61_method_1_code 1 = .ok (.invokespecial 1, 3) := by decide +kernel
theorem d2_4 : decode prog_61_method_1_code 4 = .ok (.aload_n 0, 1) := by decide +kernel
theorem d2_5 : decode prog_61_method_1_code 5 = .ok (.iload_n 1, 1) := by decide +kernel
theorem d2_6 : decode prog_61_method_1_code 6 = .ok (.newarray .byte, 2) := by decide +kernel
theorem d2_8 : decode prog_61_method_1_code 8 = .ok (.putfield 7, 3) := by decide +kernel
theorem d2_11 : decode prog_61_method_1_code 11 = .ok (.return_, 1) := by decide +kernel
theorem pn_2 : plainName "com/example/message_ledger/messageledger/requests/ErrorCodeList" = true := by first | (simp [plainName, overriddenIn]; done) | decide +kernel
theorem ef_rmInit (m : MethodId) (x0 : Addr) (x1 : Int32) : entryFrame m #[(.ref x0), (.int x1)] 2 = mkF m 0 #[.val (.ref x0), .val (.int x1)] [] := by first | (simp [entryFrame, mkF, argsToLocals, Value.category]; done) | rfl
def QInit (Z : State) (a : Addr) (p1 : Int32) (h0 : Heap) (n0 : Nat) (v : Option Value) (h : Heap) (L : List Loc) : Prop := v = none ∧ Fr n0 L ∧ Keep h0 h [a] ∧ ∃ (b : Addr) (k : ClassId), n0 ≤ b ∧ h0.size ≤ b ∧ Fld Z h a "java/util/AbstractList" "modCount" "I" (.int (0 : Int32)) ∧ Fld Z h a "com/example/message_ledger/messageledger/requests/ErrorCodeList" "ordinals" "[B" (.ref b) ∧ Fld Z h a "com/example/message_ledger/messageledger/requests/ErrorCodeList" "size" "I" (.int (0 : Int32)) ∧ Arv Z h b k .byte p1 [(.int (0 : Int32)), (.int (0 : Int32)), (.int (0 : Int32))] (.int (0 : Int32))
set_option maxRecDepth 65536 in
set_option maxHeartbeats 40000000 in
theorem rmInit (l : Launch) (Z : State) (a0 : Array Value) (hw : ∀ d ∈ tables_1, d.before a0 Z = true) (ws : List Jvm.Cond) (a : Addr) (p1 : Int32) (h0 : Heap) (n0 : Nat) (Z0 : n0 ≤ h0.size) (E_a : Exa Z h0 a "com/example/message_ledger/messageledger/requests/ErrorCodeList") (F_m : Fld Z h0 a "java/util/AbstractList" "modCount" "I" (.int (0 : Int32))) (F_o : Fld Z h0 a "com/example/message_ledger/messageledger/requests/ErrorCodeList" "ordinals" "[B" .null) (F_s : Fld Z h0 a "com/example/message_ledger/messageledger/requests/ErrorCodeList" "size" "I" (.int (0 : Int32))) (g_a : n0 ≤ a) (hp0 : ¬ p1 < 0) (hp1 : p1.toNatClampNeg ≤ 10) :
    MetFree l (⟨"com/example/message_ledger/messageledger/requests/ErrorCodeList", "<init>", "(I)V"⟩ : MethodName) (head1 (Jvm.Cond.code (⟨"com/example/message_ledger/messageledger/requests/ErrorCodeList", "<init>", "(I)V"⟩ : MethodName) prog_61_method_1_code 2 none :: ws) ({ frames := 3, cells := 1, slots := 10, locals := 36 } : Room)) (fun ar UU => ar = #[(.ref a), (.int p1)] ∧ Z.Warmed39 UU.vm ∧ UU.heap = h0) (fun _ _ _ _ _ => True) (fun _ UU oo UU' => ∃ vv LL, oo = .returned vv ∧ QInit Z a p1 h0 n0 vv UU'.heap LL ∧ FrameEnd UU oo UU' LL ({ frames := 3, cells := 1, slots := 10, locals := 36 } : Room).cells ({ frames := 3, cells := 1, slots := 10, locals := 36 } : Room).slots) := by
  refine MetFree.of_bodySF (plainFor_of_name pn_2) hisR ?_
  intro p e s m args below meth c s₁ Bd hml0 hP hK
  obtain ⟨rfl, hZ, hh⟩ := hP
  have hx := Bd.exec
  have hby := Bd.bytes
  have hml : c.maxLocals = 2 := hml0
  have hown : s.vm.findClass "com/example/message_ledger/messageledger/requests/ErrorCodeList" = some m.cls := findClass_of_methodNamed Bd.named
  have hnm := (name_of_methodNamed Bd.named Bd.method).1
  have X0 : Stand p l e ({ frames := 3, cells := 1, slots := 10, locals := 36 } : Room) s m #[(.ref a), (.int p1)] below meth c s₁ [] 0 0 := Stand.of_body Bd
  have e0 : s₁.heap = h0 := by rw [← hh, Bd.state]; rfl
  have N0 := Fr.nil n0
  have KC0 : Keep h0 h0 [a] := Keep.refl h0 [a]
  have pre0 : ∀ tgt, Steps p.tables e below (s₁.setTop (mkF m 0 #[.val (.ref a), .val (.int p1)] [])) tgt → Steps p.tables e below (s₁.setTop (entryFrame m #[(.ref a), (.int p1)] 2)) tgt := fun tgt kk => castTop (ef_rmInit m (a) (p1)) kk
  have pre1 : ∀ tgt, Steps p.tables e below (s₁.setTop (mkF m 1 #[.val (.ref a), .val (.int p1)] [(.ref a)])) tgt → Steps p.tables e below (s₁.setTop (entryFrame m #[(.ref a), (.int p1)] 2)) tgt := by
    intro tgt kk
    refine pre0 tgt ?_
    refine XS.aloadN X0.here hx rfl (hb hby d2_0) rfl rfl ?_
    show Steps p.tables e below (s₁.setTop (mkF m 1 #[.val (.ref a), .val (.int p1)] [(.ref a)])) _
    exact kk
  obtain ⟨_, _, ⟨T2, L2, k2, n2⟩, -, X2, ⟨Lc2, hQ2, l2, y2, z2⟩, st2⟩ := X0.specialBack hx (y := (⟨"java/util/AbstractList", "<init>", "()V"⟩ : MethodName)) rfl hown (mvT hZ (hw _ (List.mem_of_getElem? (i := 18) rfl))) (mvT hZ (hw _ (List.mem_of_getElem? (i := 19) rfl))) (mvT hZ (hw _ (List.mem_of_getElem? (i := 22) rfl))) (by decide) (backOf (W := 0) (rmAL l Z a0 hw [] a h0 n0 Z0 E_a F_m F_o F_s g_a) hZ (hw _ (List.mem_of_getElem? (i := 22) rfl)) (hw _ (List.mem_of_getElem? (i := 21) rfl)) (by decide) (by decide)) (g := (mkF m 1 #[.val (.ref a), .val (.int p1)] [(.ref a)])) rfl (by rw [hml]; rfl) (Steps.refl _) (a := a) (argsL := []) (rest := []) (lenOf pd___V rfl) rfl (by show 2 * 0 + _ ≤ _; exact Nat.le_of_eq rfl) (hb hby d2_1) (fun _ _ => ⟨rfl, e0, (by decide : 0 + 0 ≤ _), (by decide : 0 + 0 ≤ _)⟩)
  dsimp only [Pt.U, Pt.locs, Pt.cells, Pt.slots] at X2 l2 y2 z2 st2 hQ2
  subst l2 y2 z2
  obtain ⟨rfl, N2q, K2, QF_m2, QF_o2, QF_s2⟩ := hQ2
  have N2 := Fr.app N0 N2q
  have E_a : Exa Z T2.heap a "com/example/message_ledger/messageledger/requests/ErrorCodeList" := E_a.keep K2
  have Zs3 : n0 ≤ T2.heap.size := Nat.le_trans Z0 K2.1
  have KC3 : Keep h0 T2.heap [a] := KC0.trans K2 (allS (Or.inl (List.mem_of_getElem? (i := 0) rfl)) all0)
  have F_m := QF_m2
  have F_o := QF_o2
  have F_s := QF_s2
  have pre4 : ∀ tgt, Steps p.tables e below (T2.setTop (mkF m 6 #[.val (.ref a), .val (.int p1)] [(.int p1), (.ref a)])) tgt → Steps p.tables e below (s₁.setTop (entryFrame m #[(.ref a), (.int p1)] 2)) tgt := by
    intro tgt kk
    refine pre1 tgt ?_
    refine st2.trans ?_
    show Steps p.tables e below (T2.setTop (mkF m 4 #[.val (.ref a), .val (.int p1)] [])) _
    refine XS.aloadN X2.here hx rfl (hb hby d2_4) rfl rfl ?_
    show Steps p.tables e below (T2.setTop (mkF m 5 #[.val (.ref a), .val (.int p1)] [(.ref a)])) _
    refine XS.iloadN X2.here hx rfl (hb hby d2_5) rfl ?_
    show Steps p.tables e below (T2.setTop (mkF m 6 #[.val (.ref a), .val (.int p1)] [(.int p1), (.ref a)])) _
    exact kk
  obtain ⟨T5, h5, k5, X5, e5, E5, A5, st5⟩ := newP X2 hx hZ (hw _ (List.mem_of_getElem? (i := 34) rfl)) rfl (g := (mkF m 6 #[.val (.ref a), .val (.int p1)] [(.int p1), (.ref a)])) rfl (hb hby d2_6) rfl hp0 (cap := 10) hp1 (by decide) (by decide) (by decide)
  obtain ⟨b5, g5⟩ : ∃ z, z = T2.heap.size := ⟨_, rfl⟩
  rw [← g5] at A5 st5
  have ne6 : a ≠ b5 := Nat.ne_of_lt (Nat.lt_of_lt_of_le E_a.lt (Nat.le_of_eq g5.symm))
  have gn7 : n0 ≤ b5 := Nat.le_trans Zs3 (Nat.le_of_eq g5.symm)
  have sz7 : h0.size ≤ b5 := Nat.le_trans KC3.1 (Nat.le_of_eq g5.symm)
  have E_a : Exa Z h5 a "com/example/message_ledger/messageledger/requests/ErrorCodeList" := E_a.ext E5
  have F_m : Fld Z h5 a "java/util/AbstractList" "modCount" "I" (.int (0 : Int32)) := F_m.ext E5
  have F_o : Fld Z h5 a "com/example/message_ledger/messageledger/requests/ErrorCodeList" "ordinals" "[B" .null := F_o.ext E5
  have F_s : Fld Z h5 a "com/example/message_ledger/messageledger/requests/ErrorCodeList" "size" "I" (.int (0 : Int32)) := F_s.ext E5
  have Zs8 : n0 ≤ h5.size := Nat.le_trans Zs3 E5.1
  have KC8 : Keep h0 h5 [a] := KC3.ext E5
  have V_b5 : Arv Z h5 b5 k5 .byte p1 [(.int (0 : Int32)), (.int (0 : Int32)), (.int (0 : Int32))] (.int (0 : Int32)) := (Arv.new A5 hp0).pad (pad_rep [] (.int (0 : Int32)) 3)
  have pre9 : ∀ tgt, Steps p.tables e below (T5.setTop (mkF m 8 #[.val (.ref a), .val (.int p1)] [(.ref b5), (.ref a)])) tgt → Steps p.tables e below (s₁.setTop (entryFrame m #[(.ref a), (.int p1)] 2)) tgt := by
    intro tgt kk
    refine pre4 tgt ?_
    refine st5 _ ?_
    show Steps p.tables e below (T5.setTop (mkF m 8 #[.val (.ref a), .val (.int p1)] [(.ref b5), (.ref a)])) _
    exact kk
  obtain ⟨T10, h10, X10, e10, W10, st10⟩ := putF X5 hx hZ hown (host := "") (Or.inl (hw _ (List.mem_of_getElem? (i := 35) rfl))) Via.refl e5 F_o E_a (Or.inr ⟨(hw _ (List.mem_of_getElem? (i := 36) rfl)), rfl, hnm⟩) (hw _ (List.mem_of_getElem? (i := 13) rfl)) (ty := (.array .byte)) (by decide) rfl rfl (g := (mkF m 8 #[.val (.ref a), .val (.int p1)] [(.ref b5), (.ref a)])) rfl rfl (hb hby d2_8)
  have N10 := Fr.snoc X10 N2 g_a
  have Fq10 : Fld Z h10 a "com/example/message_ledger/messageledger/requests/ErrorCodeList" "ordinals" "[B" (.ref b5) := F_o.same W10
  have E_a : Exa Z h10 a "com/example/message_ledger/messageledger/requests/ErrorCodeList" := E_a.wr W10
  have F_m : Fld Z h10 a "java/util/AbstractList" "modCount" "I" (.int (0 : Int32)) := F_m.other W10 (Or.inr (slot_ne (Or.inl (hw _ (List.mem_of_getElem? (i := 33) rfl))) (Or.inr (hw _ (List.mem_of_getElem? (i := 36) rfl))) (by decide) (t := .int) (t' := (.array .byte)) (by decide) (by decide)))
  have F_s : Fld Z h10 a "com/example/message_ledger/messageledger/requests/ErrorCodeList" "size" "I" (.int (0 : Int32)) := F_s.other W10 (Or.inr (slot_ne (Or.inl (hw _ (List.mem_of_getElem? (i := 43) rfl))) (Or.inr (hw _ (List.mem_of_getElem? (i := 36) rfl))) (by decide) (t := .int) (t' := (.array .byte)) (by decide) (by decide)))
  have V_b5 : Arv Z h10 b5 k5 .byte p1 [(.int (0 : Int32)), (.int (0 : Int32)), (.int (0 : Int32))] (.int (0 : Int32)) := V_b5.other W10 (Ne.symm ne6)
  have Zs11 : n0 ≤ h10.size := Nat.le_trans Zs8 (Keep.of_wr W10).1
  have KC11 : Keep h0 h10 [a] := KC8.wr W10 (Or.inl (List.mem_of_getElem? (i := 0) rfl))
  have F_o := Fq10
  obtain ⟨fs, hr, hrun, hended, hW, hsame⟩ := X10.leave (v := none) (fun _ => rfl)
  refine ⟨_, _, pre9 _ ?_, hrun, hended, _, _, rfl, ?_, ⟨_, rfl⟩, hW, hsame.mono (by decide) (by decide)⟩
  · skip
    refine st10 _ ?_
    show Steps p.tables e below (T10.setTop (mkF m 11 #[.val (.ref a), .val (.int p1)] [])) _
    exact X10.returnOut hx Bd.returns (hb hby d2_11) hr
  · show QInit Z a p1 h0 n0 _ T10.heap _
    rw [e10]
    exact ⟨rfl, N10, KC11, b5, k5, gn7, sz7, F_m, F_o, F_s, V_b5⟩
theorem d6_0 : decode prog_61_method_2_code 0 = .ok (.aload_n 0, 1) := by decide +kernel
theorem d6_1 : decode prog_61_method_2_code 1 = .ok (.getfield 7, 3) := by decide +kernel
theorem d6_4 : decode prog_61_method_2_code 4 = .ok (.aload_n 0, 1) := by decide +kernel
theorem d6_5 : decode prog_61_method_2_code 5 = .ok (.dup, 1) := by decide +kernel
theorem d6_6 : decode prog_61_method_2_code 6 = .ok (.getfield 13, 3) := by decide +kernel
theorem d6_9 : decode prog_61_method_2_code 9 = .ok (.dup_x1, 1) := by decide +kernel
theorem d6_10 : decode prog_61_method_2_code 10 = .ok (.iconst 1, 1) := by decide +kernel
theorem d6_11 : decode prog_61_method_2_code 11 = .ok (.iadd, 1) := by decide +kernel
theorem d6_12 : decode prog_61_method_2_code 12 = .ok (.putfield 13, 3) := by decide +kernel
theorem d6_15 : decode prog_61_method_2_code 15 = .ok (.aload_n 1, 1) := by decide +kernel
theorem d6_16 : decode prog_61_method_2_code 16 = .ok (.invokevirtual 17, 3) := by decide +kernel
theorem d6_19 : decode prog_61_method_2_code 19 = .ok (.i2b, 1) := by decide +kernel
theorem d6_20 : decode prog_61_method_2_code 20 = .ok (.bastore, 1) := by decide +kernel
theorem d6_21 : decode prog_61_method_2_code 21 = .ok (.aload_n 0, 1) := by decide +kernel
theorem d6_22 : decode prog_61_method_2_code 22 = .ok (.dup, 1) := by decide +kernel
theorem d6_23 : decode prog_61_method_2_code 23 = .ok (.getfield 23, 3) := by decide +kernel
theorem d6_26 : decode prog_61_method_2_code 26 = .ok (.iconst 1, 1) := by decide +kernel
theorem d6_27 : decode prog_61_method_2_code 27 = .ok (.iadd, 1) := by decide +kernel
theorem d6_28 : decode prog_61_method_2_code 28 = .ok (.putfield 23, 3) := by decide +kernel
theorem d6_31 : decode prog_61_method_2_code 31 = .ok (.iconst 1, 1) := by decide +kernel
theorem d6_32 : decode prog_61_method_2_code 32 = .ok (.ireturn, 1) := by decide +kernel
theorem pn_6 : plainName "com/example/message_ledger/messageledger/requests/ErrorCodeList" = true := by first | (simp [plainName, overriddenIn]; done) | decide +kernel
theorem pd___I : parseMethodDescriptor "()I" = some ⟨[], some .int⟩ := by decide +kernel
theorem ef_rmAdd0 (m : MethodId) (x0 : Addr) (x1 : Addr) : entryFrame m #[(.ref x0), (.ref x1)] 2 = mkF m 0 #[.val (.ref x0), .val (.ref x1)] [] := by first | (simp [entryFrame, mkF, argsToLocals, Value.category]; done) | rfl
def QAdd0 (Z : State) (a : Addr) (b : Addr) (cc : Addr) (k : ClassId) (n : Int32) (md : Int32) (o : Int32) (x0 : Int32) (x1 : Int32) (x2 : Int32) (h0 : Heap) (n0 : Nat) (v : Option Value) (h : Heap) (L : List Loc) : Prop := v = some (.int (1 : Int32)) ∧ Fr n0 L ∧ Keep h0 h [a, b] ∧ Fld Z h a "java/util/AbstractList" "modCount" "I" (.int (md + (1 : Int32))) ∧ Fld Z h a "com/example/message_ledger/messageledger/requests/ErrorCodeList" "ordinals" "[B" (.ref b) ∧ Fld Z h a "com/example/message_ledger/messageledger/requests/ErrorCodeList" "size" "I" (.int (1 : Int32)) ∧ Arv Z h b k .byte n [(.int o), (.int x1), (.int x2)] (.int (0 : Int32))
set_option maxRecDepth 65536 in
set_option maxHeartbeats 40000000 in
theorem rmAdd0 (l : Launch) (Z : State) (a0 : Array Value) (hw : ∀ d ∈ tables_1, d.before a0 Z = true) (ws : List Jvm.Cond) (a : Addr) (b : Addr) (cc : Addr) (k : ClassId) (n : Int32) (md : Int32) (o : Int32) (x0 : Int32) (x1 : Int32) (x2 : Int32) (h0 : Heap) (n0 : Nat) (Z0 : n0 ≤ h0.size) (E_a : Exa Z h0 a "com/example/message_ledger/messageledger/requests/ErrorCodeList") (F_m : Fld Z h0 a "java/util/AbstractList" "modCount" "I" (.int md)) (F_o : Fld Z h0 a "com/example/message_ledger/messageledger/requests/ErrorCodeList" "ordinals" "[B" (.ref b)) (F_s : Fld Z h0 a "com/example/message_ledger/messageledger/requests/ErrorCodeList" "size" "I" (.int (0 : Int32))) (V_b : Arv Z h0 b k .byte n [(.int x0), (.int x1), (.int x2)] (.int (0 : Int32))) (E_c : Exa Z h0 cc "com/example/message_ledger/messageledger/wire/ErrorCode") (F_c : Fld Z h0 cc "java/lang/Enum" "ordinal" "I" (.int o)) (g_a : n0 ≤ a) (g_b : n0 ≤ b) (hab : a ≠ b) (hca : cc ≠ a) (hcb : cc ≠ b) (hn : (2 : Int32) < n) (ho : nar .byte o.toInt8.toInt32 = o) :
    MetFree l (⟨"com/example/message_ledger/messageledger/requests/ErrorCodeList", "add", "(Lcom/example/message_ledger/messageledger/wire/ErrorCode;)Z"⟩ : MethodName) (head1 (Jvm.Cond.code (⟨"com/example/message_ledger/messageledger/requests/ErrorCodeList", "add", "(Lcom/example/message_ledger/messageledger/wire/ErrorCode;)Z"⟩ : MethodName) prog_61_method_2_code 2 (some .boolean) :: ws) ({ frames := 1, cells := 0, slots := 0, locals := 16 } : Room)) (fun ar UU => ar = #[(.ref a), (.ref cc)] ∧ Z.Warmed39 UU.vm ∧ UU.heap = h0) (fun _ _ _ _ _ => True) (fun _ UU oo UU' => ∃ vv LL, oo = .returned vv ∧ QAdd0 Z a b cc k n md o x0 x1 x2 h0 n0 vv UU'.heap LL ∧ FrameEnd UU oo UU' LL ({ frames := 1, cells := 0, slots := 0, locals := 16 } : Room).cells ({ frames := 1, cells := 0, slots := 0, locals := 16 } : Room).slots) := by
  refine MetFree.of_bodySF (plainFor_of_name pn_6) hisR ?_
  intro p e s m args below meth c s₁ Bd hml0 hP hK
  obtain ⟨rfl, hZ, hh⟩ := hP
  have hx := Bd.exec
  have hby := Bd.bytes
  have hml : c.maxLocals = 2 := hml0
  have hown : s.vm.findClass "com/example/message_ledger/messageledger/requests/ErrorCodeList" = some m.cls := findClass_of_methodNamed Bd.named
  have hnm := (name_of_methodNamed Bd.named Bd.method).1
  have X0 : Stand p l e ({ frames := 1, cells := 0, slots := 0, locals := 16 } : Room) s m #[(.ref a), (.ref cc)] below meth c s₁ [] 0 0 := Stand.of_body Bd
  have e0 : s₁.heap = h0 := by rw [← hh, Bd.state]; rfl
  have N0 := Fr.nil n0
  have KC0 : Keep h0 h0 [a, b] := Keep.refl h0 [a, b]
  have pre0 : ∀ tgt, Steps p.tables e below (s₁.setTop (mkF m 0 #[.val (.ref a), .val (.ref cc)] [])) tgt → Steps p.tables e below (s₁.setTop (entryFrame m #[(.ref a), (.ref cc)] 2)) tgt := fun tgt kk => castTop (ef_rmAdd0 m (a) (cc)) kk
  have pre1 : ∀ tgt, Steps p.tables e below (s₁.setTop (mkF m 1 #[.val (.ref a), .val (.ref cc)] [(.ref a)])) tgt → Steps p.tables e below (s₁.setTop (entryFrame m #[(.ref a), (.ref cc)] 2)) tgt := by
    intro tgt kk
    refine pre0 tgt ?_
    refine XS.aloadN X0.here hx rfl (hb hby d6_0) rfl rfl ?_
    show Steps p.tables e below (s₁.setTop (mkF m 1 #[.val (.ref a), .val (.ref cc)] [(.ref a)])) _
    exact kk
  obtain ⟨T2, X2, e2, st2⟩ := getF X0 hx hZ hown (host := "") (Or.inl (hw _ (List.mem_of_getElem? (i := 35) rfl))) Via.refl e0 F_o (g := (mkF m 1 #[.val (.ref a), .val (.ref cc)] [(.ref a)])) rfl rfl (hb hby d6_1)
  have pre3 : ∀ tgt, Steps p.tables e below (T2.setTop (mkF m 6 #[.val (.ref a), .val (.ref cc)] [(.ref a), (.ref a), (.ref b)])) tgt → Steps p.tables e below (s₁.setTop (entryFrame m #[(.ref a), (.ref cc)] 2)) tgt := by
    intro tgt kk
    refine pre1 tgt ?_
    refine st2 _ ?_
    show Steps p.tables e below (T2.setTop (mkF m 4 #[.val (.ref a), .val (.ref cc)] [(.ref b)])) _
    refine XS.aloadN X2.here hx rfl (hb hby d6_4) rfl rfl ?_
    show Steps p.tables e below (T2.setTop (mkF m 5 #[.val (.ref a), .val (.ref cc)] [(.ref a), (.ref b)])) _
    refine XS.dup X2.here hx rfl (hb hby d6_5) rfl rfl ?_
    show Steps p.tables e below (T2.setTop (mkF m 6 #[.val (.ref a), .val (.ref cc)] [(.ref a), (.ref a), (.ref b)])) _
    exact kk
  obtain ⟨T4, X4, e4, st4⟩ := getF X2 hx hZ hown (host := "") (Or.inl (hw _ (List.mem_of_getElem? (i := 42) rfl))) Via.refl e2 F_s (g := (mkF m 6 #[.val (.ref a), .val (.ref cc)] [(.ref a), (.ref a), (.ref b)])) rfl rfl (hb hby d6_6)
  have pre5 : ∀ tgt, Steps p.tables e below (T4.setTop (mkF m 12 #[.val (.ref a), .val (.ref cc)] [(.int (1 : Int32)), (.ref a), (.int (0 : Int32)), (.ref b)])) tgt → Steps p.tables e below (s₁.setTop (entryFrame m #[(.ref a), (.ref cc)] 2)) tgt := by
    intro tgt kk
    refine pre3 tgt ?_
    refine st4 _ ?_
    show Steps p.tables e below (T4.setTop (mkF m 9 #[.val (.ref a), .val (.ref cc)] [(.int (0 : Int32)), (.ref a), (.ref b)])) _
    refine XS.dupX1 X4.here hx rfl (hb hby d6_9) rfl rfl rfl ?_
    show Steps p.tables e below (T4.setTop (mkF m 10 #[.val (.ref a), .val (.ref cc)] [(.int (0 : Int32)), (.ref a), (.int (0 : Int32)), (.ref b)])) _
    refine XS.iconst X4.here hx rfl (hb hby d6_10) ?_
    show Steps p.tables e below (T4.setTop (mkF m 11 #[.val (.ref a), .val (.ref cc)] [(.int (1 : Int32)), (.int (0 : Int32)), (.ref a), (.int (0 : Int32)), (.ref b)])) _
    refine XS.iadd X4.here hx rfl (hb hby d6_11) rfl ?_
    show Steps p.tables e below (T4.setTop (mkF m 12 #[.val (.ref a), .val (.ref cc)] [(.int (1 : Int32)), (.ref a), (.int (0 : Int32)), (.ref b)])) _
    exact kk
  obtain ⟨T6, h6, X6, e6, W6, st6⟩ := putF X4 hx hZ hown (host := "") (Or.inl (hw _ (List.mem_of_getElem? (i := 42) rfl))) Via.refl e4 F_s E_a (Or.inl (hw _ (List.mem_of_getElem? (i := 43) rfl))) (hw _ (List.mem_of_getElem? (i := 13) rfl)) (ty := .int) (by decide) rfl rfl (g := (mkF m 12 #[.val (.ref a), .val (.ref cc)] [(.int (1 : Int32)), (.ref a), (.int (0 : Int32)), (.ref b)])) rfl rfl (hb hby d6_12)
  have N6 := Fr.snoc X6 N0 g_a
  have Fq6 : Fld Z h6 a "com/example/message_ledger/messageledger/requests/ErrorCodeList" "size" "I" (.int (1 : Int32)) := F_s.same W6
  have E_a : Exa Z h6 a "com/example/message_ledger/messageledger/requests/ErrorCodeList" := E_a.wr W6
  have F_m : Fld Z h6 a "java/util/AbstractList" "modCount" "I" (.int md) := F_m.other W6 (Or.inr (slot_ne (Or.inl (hw _ (List.mem_of_getElem? (i := 33) rfl))) (Or.inl (hw _ (List.mem_of_getElem? (i := 43) rfl))) (by decide) (t := .int) (t' := .int) (by decide) (by decide)))
  have F_o : Fld Z h6 a "com/example/message_ledger/messageledger/requests/ErrorCodeList" "ordinals" "[B" (.ref b) := F_o.other W6 (Or.inr (slot_ne (Or.inr (hw _ (List.mem_of_getElem? (i := 36) rfl))) (Or.inl (hw _ (List.mem_of_getElem? (i := 43) rfl))) (by decide) (t := (.array .byte)) (t' := .int) (by decide) (by decide)))
  have V_b : Arv Z h6 b k .byte n [(.int x0), (.int x1), (.int x2)] (.int (0 : Int32)) := V_b.other W6 (Ne.symm hab)
  have E_c : Exa Z h6 cc "com/example/message_ledger/messageledger/wire/ErrorCode" := E_c.wr W6
  have F_c : Fld Z h6 cc "java/lang/Enum" "ordinal" "I" (.int o) := F_c.other W6 (Or.inl hca)
  have Zs7 : n0 ≤ h6.size := Nat.le_trans Z0 (Keep.of_wr W6).1
  have KC7 : Keep h0 h6 [a, b] := KC0.wr W6 (Or.inl (List.mem_of_getElem? (i := 0) rfl))
  have F_s := Fq6
  have pre8 : ∀ tgt, Steps p.tables e below (T6.setTop (mkF m 16 #[.val (.ref a), .val (.ref cc)] [(.ref cc), (.int (0 : Int32)), (.ref b)])) tgt → Steps p.tables e below (s₁.setTop (entryFrame m #[(.ref a), (.ref cc)] 2)) tgt := by
    intro tgt kk
    refine pre5 tgt ?_
    refine st6 _ ?_
    show Steps p.tables e below (T6.setTop (mkF m 15 #[.val (.ref a), .val (.ref cc)] [(.int (0 : Int32)), (.ref b)])) _
    refine XS.aloadN X6.here hx rfl (hb hby d6_15) rfl rfl ?_
    show Steps p.tables e below (T6.setTop (mkF m 16 #[.val (.ref a), .val (.ref cc)] [(.ref cc), (.int (0 : Int32)), (.ref b)])) _
    exact kk
  obtain ⟨cq9, kq9, q9a, q9b, q9c⟩ := isOf hZ e6 E_c
  obtain ⟨_, _, ⟨T9, L9, k9, n9⟩, -, X9, ⟨Lc9, hQ9, l9, y9, z9⟩, st9⟩ := X6.virtualBackUp hx (x := (⟨"com/example/message_ledger/messageledger/wire/ErrorCode", "ordinal", "()I"⟩ : MethodName)) (y := (⟨"java/lang/Enum", "ordinal", "()I"⟩ : MethodName)) (owner := "java/lang/Enum") hown (mvT hZ (hw _ (List.mem_of_getElem? (i := 44) rfl))) (mvT hZ (hw _ (List.mem_of_getElem? (i := 45) rfl))) (mvT hZ (hw _ (List.mem_of_getElem? (i := 46) rfl))) (by decide) (mvT hZ (hw _ (List.mem_of_getElem? (i := 48) rfl))) (mvT hZ (hw _ (List.mem_of_getElem? (i := 47) rfl))) (backOf (W := 2) (rmOrd l Z a0 hw [] cc (o) h6 n0 Zs7 F_c) hZ (hw _ (List.mem_of_getElem? (i := 50) rfl)) (hw _ (List.mem_of_getElem? (i := 49) rfl)) (by decide) (by decide)) q9a q9c (g := (mkF m 16 #[.val (.ref a), .val (.ref cc)] [(.ref cc), (.int (0 : Int32)), (.ref b)])) rfl (by rw [hml]; rfl) (Steps.refl _) (argsL := []) (rest := [(.int (0 : Int32)), (.ref b)]) (lenOf pd___I rfl) rfl (by show 2 * 0 + _ ≤ _; exact Nat.le_of_eq rfl) (hb hby d6_16) (fun _ _ => ⟨rfl, e6, (by decide : 0 + 0 ≤ _), (by decide : 0 + 0 ≤ _)⟩)
  dsimp only [Pt.U, Pt.locs, Pt.cells, Pt.slots] at X9 l9 y9 z9 st9 hQ9
  subst l9 y9 z9
  obtain ⟨rfl, N9q, hh9⟩ := hQ9
  have N9 := Fr.app N6 N9q
  have pre10 : ∀ tgt, Steps p.tables e below (T9.setTop (mkF m 20 #[.val (.ref a), .val (.ref cc)] [(.int o.toInt8.toInt32), (.int (0 : Int32)), (.ref b)])) tgt → Steps p.tables e below (s₁.setTop (entryFrame m #[(.ref a), (.ref cc)] 2)) tgt := by
    intro tgt kk
    refine pre8 tgt ?_
    refine st9.trans ?_
    show Steps p.tables e below (T9.setTop (mkF m 19 #[.val (.ref a), .val (.ref cc)] [(.int o), (.int (0 : Int32)), (.ref b)])) _
    refine XS.i2b X9.here hx rfl (hb hby d6_19) rfl ?_
    show Steps p.tables e below (T9.setTop (mkF m 20 #[.val (.ref a), .val (.ref cc)] [(.int o.toInt8.toInt32), (.int (0 : Int32)), (.ref b)])) _
    exact kk
  obtain ⟨cl11, Ar11, aq11, aS11, aN11, aH11, aG11⟩ := id V_b
  have hin12 : ¬ ((0 : Int32) < 0 ∨ cl11.slots.size ≤ ((0 : Int32)).toNatClampNeg) := inb_of aS11 ⟨by decide, own_lt0 hn⟩
  obtain ⟨T12, h12, X12, e12, W12, st12⟩ := stB X9 hx hZ hh9 Ar11 (j := (0 : Int32)) hin12 (g := (mkF m 20 #[.val (.ref a), .val (.ref cc)] [(.int o.toInt8.toInt32), (.int (0 : Int32)), (.ref b)])) rfl rfl (hb hby d6_20)
  have N12 := Fr.snoc X12 N9 g_b
  have Vq12 : Arv Z h12 b k .byte n [(.int (nar .byte o.toInt8.toInt32)), (.int x1), (.int x2)] (.int (0 : Int32)) := Arv.set Ar11 aq11 aS11 aN11 aH11 aG11 (fits_nar_byte _) W12 0 rfl (Nat.le_of_ble_eq_true rfl)
  have E_a : Exa Z h12 a "com/example/message_ledger/messageledger/requests/ErrorCodeList" := E_a.wr W12
  have F_m : Fld Z h12 a "java/util/AbstractList" "modCount" "I" (.int md) := F_m.other W12 (Or.inl hab)
  have F_o : Fld Z h12 a "com/example/message_ledger/messageledger/requests/ErrorCodeList" "ordinals" "[B" (.ref b) := F_o.other W12 (Or.inl hab)
  have E_c : Exa Z h12 cc "com/example/message_ledger/messageledger/wire/ErrorCode" := E_c.wr W12
  have F_c : Fld Z h12 cc "java/lang/Enum" "ordinal" "I" (.int o) := F_c.other W12 (Or.inl hcb)
  have F_s : Fld Z h12 a "com/example/message_ledger/messageledger/requests/ErrorCodeList" "size" "I" (.int (1 : Int32)) := F_s.other W12 (Or.inl hab)
  have Zs13 : n0 ≤ h12.size := Nat.le_trans Zs7 (Keep.of_wr W12).1
  have KC13 : Keep h0 h12 [a, b] := KC7.wr W12 (Or.inl (List.mem_of_getElem? (i := 1) rfl))
  have V_b := Vq12
  rw [ho] at V_b
  have V_b : Arv Z h12 b k .byte n [(.int o), (.int x1), (.int x2)] (.int (0 : Int32)) := V_b
  have pre14 : ∀ tgt, Steps p.tables e below (T12.setTop (mkF m 23 #[.val (.ref a), .val (.ref cc)] [(.ref a), (.ref a)])) tgt → Steps p.tables e below (s₁.setTop (entryFrame m #[(.ref a), (.ref cc)] 2)) tgt := by
    intro tgt kk
    refine pre10 tgt ?_
    refine st12 _ ?_
    show Steps p.tables e below (T12.setTop (mkF m 21 #[.val (.ref a), .val (.ref cc)] [])) _
    refine XS.aloadN X12.here hx rfl (hb hby d6_21) rfl rfl ?_
    show Steps p.tables e below (T12.setTop (mkF m 22 #[.val (.ref a), .val (.ref cc)] [(.ref a)])) _
    refine XS.dup X12.here hx rfl (hb hby d6_22) rfl rfl ?_
    show Steps p.tables e below (T12.setTop (mkF m 23 #[.val (.ref a), .val (.ref cc)] [(.ref a), (.ref a)])) _
    exact kk
  obtain ⟨T15, X15, e15, st15⟩ := getF X12 hx hZ hown (host := "") (Or.inl (hw _ (List.mem_of_getElem? (i := 53) rfl))) (Via.of (hw _ (List.mem_of_getElem? (i := 54) rfl))) e12 F_m (g := (mkF m 23 #[.val (.ref a), .val (.ref cc)] [(.ref a), (.ref a)])) rfl rfl (hb hby d6_23)
  have pre16 : ∀ tgt, Steps p.tables e below (T15.setTop (mkF m 28 #[.val (.ref a), .val (.ref cc)] [(.int (md + (1 : Int32))), (.ref a)])) tgt → Steps p.tables e below (s₁.setTop (entryFrame m #[(.ref a), (.ref cc)] 2)) tgt := by
    intro tgt kk
    refine pre14 tgt ?_
    refine st15 _ ?_
    show Steps p.tables e below (T15.setTop (mkF m 26 #[.val (.ref a), .val (.ref cc)] [(.int md), (.ref a)])) _
    refine XS.iconst X15.here hx rfl (hb hby d6_26) ?_
    show Steps p.tables e below (T15.setTop (mkF m 27 #[.val (.ref a), .val (.ref cc)] [(.int (1 : Int32)), (.int md), (.ref a)])) _
    refine XS.iadd X15.here hx rfl (hb hby d6_27) rfl ?_
    show Steps p.tables e below (T15.setTop (mkF m 28 #[.val (.ref a), .val (.ref cc)] [(.int (md + (1 : Int32))), (.ref a)])) _
    exact kk
  obtain ⟨T17, h17, X17, e17, W17, st17⟩ := putF X15 hx hZ hown (host := "") (Or.inl (hw _ (List.mem_of_getElem? (i := 53) rfl))) (Via.of (hw _ (List.mem_of_getElem? (i := 54) rfl))) e15 F_m E_a (Or.inl (hw _ (List.mem_of_getElem? (i := 33) rfl))) (hw _ (List.mem_of_getElem? (i := 13) rfl)) (ty := .int) (by decide) rfl rfl (g := (mkF m 28 #[.val (.ref a), .val (.ref cc)] [(.int (md + (1 : Int32))), (.ref a)])) rfl rfl (hb hby d6_28)
  have N17 := Fr.snoc X17 N12 g_a
  have Fq17 : Fld Z h17 a "java/util/AbstractList" "modCount" "I" (.int (md + (1 : Int32))) := F_m.same W17
  have E_a : Exa Z h17 a "com/example/message_ledger/messageledger/requests/ErrorCodeList" := E_a.wr W17
  have F_o : Fld Z h17 a "com/example/message_ledger/messageledger/requests/ErrorCodeList" "ordinals" "[B" (.ref b) := F_o.other W17 (Or.inr (slot_ne (Or.inr (hw _ (List.mem_of_getElem? (i := 36) rfl))) (Or.inl (hw _ (List.mem_of_getElem? (i := 33) rfl))) (by decide) (t := (.array .byte)) (t' := .int) (by decide) (by decide)))
  have E_c : Exa Z h17 cc "com/example/message_ledger/messageledger/wire/ErrorCode" := E_c.wr W17
  have F_c : Fld Z h17 cc "java/lang/Enum" "ordinal" "I" (.int o) := F_c.other W17 (Or.inl hca)
  have F_s : Fld Z h17 a "com/example/message_ledger/messageledger/requests/ErrorCodeList" "size" "I" (.int (1 : Int32)) := F_s.other W17 (Or.inr (slot_ne (Or.inl (hw _ (List.mem_of_getElem? (i := 43) rfl))) (Or.inl (hw _ (List.mem_of_getElem? (i := 33) rfl))) (by decide) (t := .int) (t' := .int) (by decide) (by decide)))
  have V_b : Arv Z h17 b k .byte n [(.int o), (.int x1), (.int x2)] (.int (0 : Int32)) := V_b.other W17 (Ne.symm hab)
  have Zs18 : n0 ≤ h17.size := Nat.le_trans Zs13 (Keep.of_wr W17).1
  have KC18 : Keep h0 h17 [a, b] := KC13.wr W17 (Or.inl (List.mem_of_getElem? (i := 0) rfl))
  have F_m := Fq17
  obtain ⟨fs, hr, hrun, hended, hW, hsame⟩ := X17.leave (v := some (.int (1 : Int32))) (fun h => by rw [Bd.returns] at h; cases h)
  refine ⟨_, _, pre16 _ ?_, hrun, hended, _, _, rfl, ?_, ⟨_, rfl⟩, hW, hsame.mono (by decide) (by decide)⟩
  · skip
    refine st17 _ ?_
    show Steps p.tables e below (T17.setTop (mkF m 31 #[.val (.ref a), .val (.ref cc)] [])) _
    refine XS.iconst X17.here hx rfl (hb hby d6_31) ?_
    show Steps p.tables e below (T17.setTop (mkF m 32 #[.val (.ref a), .val (.ref cc)] [(.int (1 : Int32))])) _
    exact retN X17 hx (t := .boolean) Bd.returns (by simp) (hb hby d6_32) hr
  · show QAdd0 Z a b cc k n md o x0 x1 x2 h0 n0 _ T17.heap _
    rw [e17]
    exact ⟨rfl, N17, KC18, F_m, F_o, F_s, V_b⟩
theorem ef_rmAdd1 (m : MethodId) (x0 : Addr) (x1 : Addr) : entryFrame m #[(.ref x0), (.ref x1)] 2 = mkF m 0 #[.val (.ref x0), .val (.ref x1)] [] := by first | (simp [entryFrame, mkF, argsToLocals, Value.category]; done) | rfl
def QAdd1 (Z : State) (a : Addr) (b : Addr) (cc : Addr) (k : ClassId) (n : Int32) (md : Int32) (o : Int32) (x0 : Int32) (x1 : Int32) (x2 : Int32) (h0 : Heap) (n0 : Nat) (v : Option Value) (h : Heap) (L : List Loc) : Prop := v = some (.int (1 : Int32)) ∧ Fr n0 L ∧ Keep h0 h [a, b] ∧ Fld Z h a "java/util/AbstractList" "modCount" "I" (.int (md + (1 : Int32))) ∧ Fld Z h a "com/example/message_ledger/messageledger/requests/ErrorCodeList" "ordinals" "[B" (.ref b) ∧ Fld Z h a "com/example/message_ledger/messageledger/requests/ErrorCodeList" "size" "I" (.int (2 : Int32)) ∧ Arv Z h b k .byte n [(.int x0), (.int o), (.int x2)] (.int (0 : Int32))
set_option maxRecDepth 65536 in
set_option maxHeartbeats 40000000 in
theorem rmAdd1 (l : Launch) (Z : State) (a0 : Array Value) (hw : ∀ d ∈ tables_1, d.before a0 Z = true) (ws : List Jvm.Cond) (a : Addr) (b : Addr) (cc : Addr) (k : ClassId) (n : Int32) (md : Int32) (o : Int32) (x0 : Int32) (x1 : Int32) (x2 : Int32) (h0 : Heap) (n0 : Nat) (Z0 : n0 ≤ h0.size) (E_a : Exa Z h0 a "com/example/message_ledger/messageledger/requests/ErrorCodeList") (F_m : Fld Z h0 a "java/util/AbstractList" "modCount" "I" (.int md)) (F_o : Fld Z h0 a "com/example/message_ledger/messageledger/requests/ErrorCodeList" "ordinals" "[B" (.ref b)) (F_s : Fld Z h0 a "com/example/message_ledger/messageledger/requests/ErrorCodeList" "size" "I" (.int (1 : Int32))) (V_b : Arv Z h0 b k .byte n [(.int x0), (.int x1), (.int x2)] (.int (0 : Int32))) (E_c : Exa Z h0 cc "com/example/message_ledger/messageledger/wire/ErrorCode") (F_c : Fld Z h0 cc "java/lang/Enum" "ordinal" "I" (.int o)) (g_a : n0 ≤ a) (g_b : n0 ≤ b) (hab : a ≠ b) (hca : cc ≠ a) (hcb : cc ≠ b) (hn : (2 : Int32) < n) (ho : nar .byte o.toInt8.toInt32 = o) :
    MetFree l (⟨"com/example/message_ledger/messageledger/requests/ErrorCodeList", "add", "(Lcom/example/message_ledger/messageledger/wire/ErrorCode;)Z"⟩ : MethodName) (head1 (Jvm.Cond.code (⟨"com/example/message_ledger/messageledger/requests/ErrorCodeList", "add", "(Lcom/example/message_ledger/messageledger/wire/ErrorCode;)Z"⟩ : MethodName) prog_61_method_2_code 2 (some .boolean) :: ws) ({ frames := 1, cells := 0, slots := 0, locals := 16 } : Room)) (fun ar UU => ar = #[(.ref a), (.ref cc)] ∧ Z.Warmed39 UU.vm ∧ UU.heap = h0) (fun _ _ _ _ _ => True) (fun _ UU oo UU' => ∃ vv LL, oo = .returned vv ∧ QAdd1 Z a b cc k n md o x0 x1 x2 h0 n0 vv UU'.heap LL ∧ FrameEnd UU oo UU' LL ({ frames := 1, cells := 0, slots := 0, locals := 16 } : Room).cells ({ frames := 1, cells := 0, slots := 0, locals := 16 } : Room).slots) := by
  refine MetFree.of_bodySF (plainFor_of_name pn_6) hisR ?_
  intro p e s m args below meth c s₁ Bd hml0 hP hK
  obtain ⟨rfl, hZ, hh⟩ := hP
  have hx := Bd.exec
  have hby := Bd.bytes
  have hml : c.maxLocals = 2 := hml0
  have hown : s.vm.findClass "com/example/message_ledger/messageledger/requests/ErrorCodeList" = some m.cls := findClass_of_methodNamed Bd.named
  have hnm := (name_of_methodNamed Bd.named Bd.method).1
  have X0 : Stand p l e ({ frames := 1, cells := 0, slots := 0, locals := 16 } : Room) s m #[(.ref a), (.ref cc)] below meth c s₁ [] 0 0 := Stand.of_body Bd
  have e0 : s₁.heap = h0 := by rw [← hh, Bd.state]; rfl
  have N0 := Fr.nil n0
  have KC0 : Keep h0 h0 [a, b] := Keep.refl h0 [a, b]
  have pre0 : ∀ tgt, Steps p.tables e below (s₁.setTop (mkF m 0 #[.val (.ref a), .val (.ref cc)] [])) tgt → Steps p.tables e below (s₁.setTop (entryFrame m #[(.ref a), (.ref cc)] 2)) tgt := fun tgt kk => castTop (ef_rmAdd1 m (a) (cc)) kk
  have pre1 : ∀ tgt, Steps p.tables e below (s₁.setTop (mkF m 1 #[.val (.ref a), .val (.ref cc)] [(.ref a)])) tgt → Steps p.tables e below (s₁.setTop (entryFrame m #[(.ref a), (.ref cc)] 2)) tgt := by
    intro tgt kk
    refine pre0 tgt ?_
    refine XS.aloadN X0.here hx rfl (hb hby d6_0) rfl rfl ?_
    show Steps p.tables e below (s₁.setTop (mkF m 1 #[.val (.ref a), .val (.ref cc)] [(.ref a)])) _
    exact kk
  obtain ⟨T2, X2, e2, st2⟩ := getF X0 hx hZ hown (host := "") (Or.inl (hw _ (List.mem_of_getElem? (i := 35) rfl))) Via.refl e0 F_o (g := (mkF m 1 #[.val (.ref a), .val (.ref cc)] [(.ref a)])) rfl rfl (hb hby d6_1)
  have pre3 : ∀ tgt, Steps p.tables e below (T2.setTop (mkF m 6 #[.val (.ref a), .val (.ref cc)] [(.ref a), (.ref a), (.ref b)])) tgt → Steps p.tables e below (s₁.setTop (entryFrame m #[(.ref a), (.ref cc)] 2)) tgt := by
    intro tgt kk
    refine pre1 tgt ?_
    refine st2 _ ?_
    show Steps p.tables e below (T2.setTop (mkF m 4 #[.val (.ref a), .val (.ref cc)] [(.ref b)])) _
    refine XS.aloadN X2.here hx rfl (hb hby d6_4) rfl rfl ?_
    show Steps p.tables e below (T2.setTop (mkF m 5 #[.val (.ref a), .val (.ref cc)] [(.ref a), (.ref b)])) _
    refine XS.dup X2.here hx rfl (hb hby d6_5) rfl rfl ?_
    show Steps p.tables e below (T2.setTop (mkF m 6 #[.val (.ref a), .val (.ref cc)] [(.ref a), (.ref a), (.ref b)])) _
    exact kk
  obtain ⟨T4, X4, e4, st4⟩ := getF X2 hx hZ hown (host := "") (Or.inl (hw _ (List.mem_of_getElem? (i := 42) rfl))) Via.refl e2 F_s (g := (mkF m 6 #[.val (.ref a), .val (.ref cc)] [(.ref a), (.ref a), (.ref b)])) rfl rfl (hb hby d6_6)
  have pre5 : ∀ tgt, Steps p.tables e below (T4.setTop (mkF m 12 #[.val (.ref a), .val (.ref cc)] [(.int (2 : Int32)), (.ref a), (.int (1 : Int32)), (.ref b)])) tgt → Steps p.tables e below (s₁.setTop (entryFrame m #[(.ref a), (.ref cc)] 2)) tgt := by
    intro tgt kk
    refine pre3 tgt ?_
    refine st4 _ ?_
    show Steps p.tables e below (T4.setTop (mkF m 9 #[.val (.ref a), .val (.ref cc)] [(.int (1 : Int32)), (.ref a), (.ref b)])) _
    refine XS.dupX1 X4.here hx rfl (hb hby d6_9) rfl rfl rfl ?_
    show Steps p.tables e below (T4.setTop (mkF m 10 #[.val (.ref a), .val (.ref cc)] [(.int (1 : Int32)), (.ref a), (.int (1 : Int32)), (.ref b)])) _
    refine XS.iconst X4.here hx rfl (hb hby d6_10) ?_
    show Steps p.tables e below (T4.setTop (mkF m 11 #[.val (.ref a), .val (.ref cc)] [(.int (1 : Int32)), (.int (1 : Int32)), (.ref a), (.int (1 : Int32)), (.ref b)])) _
    refine XS.iadd X4.here hx rfl (hb hby d6_11) rfl ?_
    show Steps p.tables e below (T4.setTop (mkF m 12 #[.val (.ref a), .val (.ref cc)] [(.int (2 : Int32)), (.ref a), (.int (1 : Int32)), (.ref b)])) _
    exact kk
  obtain ⟨T6, h6, X6, e6, W6, st6⟩ := putF X4 hx hZ hown (host := "") (Or.inl (hw _ (List.mem_of_getElem? (i := 42) rfl))) Via.refl e4 F_s E_a (Or.inl (hw _ (List.mem_of_getElem? (i := 43) rfl))) (hw _ (List.mem_of_getElem? (i := 13) rfl)) (ty := .int) (by decide) rfl rfl (g := (mkF m 12 #[.val (.ref a), .val (.ref cc)] [(.int (2 : Int32)), (.ref a), (.int (1 : Int32)), (.ref b)])) rfl rfl (hb hby d6_12)
  have N6 := Fr.snoc X6 N0 g_a
  have Fq6 : Fld Z h6 a "com/example/message_ledger/messageledger/requests/ErrorCodeList" "size" "I" (.int (2 : Int32)) := F_s.same W6
  have E_a : Exa Z h6 a "com/example/message_ledger/messageledger/requests/ErrorCodeList" := E_a.wr W6
  have F_m : Fld Z h6 a "java/util/AbstractList" "modCount" "I" (.int md) := F_m.other W6 (Or.inr (slot_ne (Or.inl (hw _ (List.mem_of_getElem? (i := 33) rfl))) (Or.inl (hw _ (List.mem_of_getElem? (i := 43) rfl))) (by decide) (t := .int) (t' := .int) (by decide) (by decide)))
  have F_o : Fld Z h6 a "com/example/message_ledger/messageledger/requests/ErrorCodeList" "ordinals" "[B" (.ref b) := F_o.other W6 (Or.inr (slot_ne (Or.inr (hw _ (List.mem_of_getElem? (i := 36) rfl))) (Or.inl (hw _ (List.mem_of_getElem? (i := 43) rfl))) (by decide) (t := (.array .byte)) (t' := .int) (by decide) (by decide)))
  have V_b : Arv Z h6 b k .byte n [(.int x0), (.int x1), (.int x2)] (.int (0 : Int32)) := V_b.other W6 (Ne.symm hab)
  have E_c : Exa Z h6 cc "com/example/message_ledger/messageledger/wire/ErrorCode" := E_c.wr W6
  have F_c : Fld Z h6 cc "java/lang/Enum" "ordinal" "I" (.int o) := F_c.other W6 (Or.inl hca)
  have Zs7 : n0 ≤ h6.size := Nat.le_trans Z0 (Keep.of_wr W6).1
  have KC7 : Keep h0 h6 [a, b] := KC0.wr W6 (Or.inl (List.mem_of_getElem? (i := 0) rfl))
  have F_s := Fq6
  have pre8 : ∀ tgt, Steps p.tables e below (T6.setTop (mkF m 16 #[.val (.ref a), .val (.ref cc)] [(.ref cc), (.int (1 : Int32)), (.ref b)])) tgt → Steps p.tables e below (s₁.setTop (entryFrame m #[(.ref a), (.ref cc)] 2)) tgt := by
    intro tgt kk
    refine pre5 tgt ?_
    refine st6 _ ?_
    show Steps p.tables e below (T6.setTop (mkF m 15 #[.val (.ref a), .val (.ref cc)] [(.int (1 : Int32)), (.ref b)])) _
    refine XS.aloadN X6.here hx rfl (hb hby d6_15) rfl rfl ?_
    show Steps p.tables e below (T6.setTop (mkF m 16 #[.val (.ref a), .val (.ref cc)] [(.ref cc), (.int (1 : Int32)), (.ref b)])) _
    exact kk
  obtain ⟨cq9, kq9, q9a, q9b, q9c⟩ := isOf hZ e6 E_c
  obtain ⟨_, _, ⟨T9, L9, k9, n9⟩, -, X9, ⟨Lc9, hQ9, l9, y9, z9⟩, st9⟩ := X6.virtualBackUp hx (x := (⟨"com/example/message_ledger/messageledger/wire/ErrorCode", "ordinal", "()I"⟩ : MethodName)) (y := (⟨"java/lang/Enum", "ordinal", "()I"⟩ : MethodName)) (owner := "java/lang/Enum") hown (mvT hZ (hw _ (List.mem_of_getElem? (i := 44) rfl))) (mvT hZ (hw _ (List.mem_of_getElem? (i := 45) rfl))) (mvT hZ (hw _ (List.mem_of_getElem? (i := 46) rfl))) (by decide) (mvT hZ (hw _ (List.mem_of_getElem? (i := 48) rfl))) (mvT hZ (hw _ (List.mem_of_getElem? (i := 47) rfl))) (backOf (W := 2) (rmOrd l Z a0 hw [] cc (o) h6 n0 Zs7 F_c) hZ (hw _ (List.mem_of_getElem? (i := 50) rfl)) (hw _ (List.mem_of_getElem? (i := 49) rfl)) (by decide) (by decide)) q9a q9c (g := (mkF m 16 #[.val (.ref a), .val (.ref cc)] [(.ref cc), (.int (1 : Int32)), (.ref b)])) rfl (by rw [hml]; rfl) (Steps.refl _) (argsL := []) (rest := [(.int (1 : Int32)), (.ref b)]) (lenOf pd___I rfl) rfl (by show 2 * 0 + _ ≤ _; exact Nat.le_of_eq rfl) (hb hby d6_16) (fun _ _ => ⟨rfl, e6, (by decide : 0 + 0 ≤ _), (by decide : 0 + 0 ≤ _)⟩)
  dsimp only [Pt.U, Pt.locs, Pt.cells, Pt.slots] at X9 l9 y9 z9 st9 hQ9
  subst l9 y9 z9
  obtain ⟨rfl, N9q, hh9⟩ := hQ9
  have N9 := Fr.app N6 N9q
  have pre10 : ∀ tgt, Steps p.tables e below (T9.setTop (mkF m 20 #[.val (.ref a), .val (.ref cc)] [(.int o.toInt8.toInt32), (.int (1 : Int32)), (.ref b)])) tgt → Steps p.tables e below (s₁.setTop (entryFrame m #[(.ref a), (.ref cc)] 2)) tgt := by
    intro tgt kk
    refine pre8 tgt ?_
    refine st9.trans ?_
    show Steps p.tables e below (T9.setTop (mkF m 19 #[.val (.ref a), .val (.ref cc)] [(.int o), (.int (1 : Int32)), (.ref b)])) _
    refine XS.i2b X9.here hx rfl (hb hby d6_19) rfl ?_
    show Steps p.tables e below (T9.setTop (mkF m 20 #[.val (.ref a), .val (.ref cc)] [(.int o.toInt8.toInt32), (.int (1 : Int32)), (.ref b)])) _
    exact kk
  obtain ⟨cl11, Ar11, aq11, aS11, aN11, aH11, aG11⟩ := id V_b
  have hin12 : ¬ ((1 : Int32) < 0 ∨ cl11.slots.size ≤ ((1 : Int32)).toNatClampNeg) := inb_of aS11 ⟨by decide, own_lt1 hn⟩
  obtain ⟨T12, h12, X12, e12, W12, st12⟩ := stB X9 hx hZ hh9 Ar11 (j := (1 : Int32)) hin12 (g := (mkF m 20 #[.val (.ref a), .val (.ref cc)] [(.int o.toInt8.toInt32), (.int (1 : Int32)), (.ref b)])) rfl rfl (hb hby d6_20)
  have N12 := Fr.snoc X12 N9 g_b
  have Vq12 : Arv Z h12 b k .byte n [(.int x0), (.int (nar .byte o.toInt8.toInt32)), (.int x2)] (.int (0 : Int32)) := Arv.set Ar11 aq11 aS11 aN11 aH11 aG11 (fits_nar_byte _) W12 1 rfl (Nat.le_of_ble_eq_true rfl)
  have E_a : Exa Z h12 a "com/example/message_ledger/messageledger/requests/ErrorCodeList" := E_a.wr W12
  have F_m : Fld Z h12 a "java/util/AbstractList" "modCount" "I" (.int md) := F_m.other W12 (Or.inl hab)
  have F_o : Fld Z h12 a "com/example/message_ledger/messageledger/requests/ErrorCodeList" "ordinals" "[B" (.ref b) := F_o.other W12 (Or.inl hab)
  have E_c : Exa Z h12 cc "com/example/message_ledger/messageledger/wire/ErrorCode" := E_c.wr W12
  have F_c : Fld Z h12 cc "java/lang/Enum" "ordinal" "I" (.int o) := F_c.other W12 (Or.inl hcb)
  have F_s : Fld Z h12 a "com/example/message_ledger/messageledger/requests/ErrorCodeList" "size" "I" (.int (2 : Int32)) := F_s.other W12 (Or.inl hab)
  have Zs13 : n0 ≤ h12.size := Nat.le_trans Zs7 (Keep.of_wr W12).1
  have KC13 : Keep h0 h12 [a, b] := KC7.wr W12 (Or.inl (List.mem_of_getElem? (i := 1) rfl))
  have V_b := Vq12
  rw [ho] at V_b
  have V_b : Arv Z h12 b k .byte n [(.int x0), (.int o), (.int x2)] (.int (0 : Int32)) := V_b
  have pre14 : ∀ tgt, Steps p.tables e below (T12.setTop (mkF m 23 #[.val (.ref a), .val (.ref cc)] [(.ref a), (.ref a)])) tgt → Steps p.tables e below (s₁.setTop (entryFrame m #[(.ref a), (.ref cc)] 2)) tgt := by
    intro tgt kk
    refine pre10 tgt ?_
    refine st12 _ ?_
    show Steps p.tables e below (T12.setTop (mkF m 21 #[.val (.ref a), .val (.ref cc)] [])) _
    refine XS.aloadN X12.here hx rfl (hb hby d6_21) rfl rfl ?_
    show Steps p.tables e below (T12.setTop (mkF m 22 #[.val (.ref a), .val (.ref cc)] [(.ref a)])) _
    refine XS.dup X12.here hx rfl (hb hby d6_22) rfl rfl ?_
    show Steps p.tables e below (T12.setTop (mkF m 23 #[.val (.ref a), .val (.ref cc)] [(.ref a), (.ref a)])) _
    exact kk
  obtain ⟨T15, X15, e15, st15⟩ := getF X12 hx hZ hown (host := "") (Or.inl (hw _ (List.mem_of_getElem? (i := 53) rfl))) (Via.of (hw _ (List.mem_of_getElem? (i := 54) rfl))) e12 F_m (g := (mkF m 23 #[.val (.ref a), .val (.ref cc)] [(.ref a), (.ref a)])) rfl rfl (hb hby d6_23)
  have pre16 : ∀ tgt, Steps p.tables e below (T15.setTop (mkF m 28 #[.val (.ref a), .val (.ref cc)] [(.int (md + (1 : Int32))), (.ref a)])) tgt → Steps p.tables e below (s₁.setTop (entryFrame m #[(.ref a), (.ref cc)] 2)) tgt := by
    intro tgt kk
    refine pre14 tgt ?_
    refine st15 _ ?_
    show Steps p.tables e below (T15.setTop (mkF m 26 #[.val (.ref a), .val (.ref cc)] [(.int md), (.ref a)])) _
    refine XS.iconst X15.here hx rfl (hb hby d6_26) ?_
    show Steps p.tables e below (T15.setTop (mkF m 27 #[.val (.ref a), .val (.ref cc)] [(.int (1 : Int32)), (.int md), (.ref a)])) _
    refine XS.iadd X15.here hx rfl (hb hby d6_27) rfl ?_
    show Steps p.tables e below (T15.setTop (mkF m 28 #[.val (.ref a), .val (.ref cc)] [(.int (md + (1 : Int32))), (.ref a)])) _
    exact kk
  obtain ⟨T17, h17, X17, e17, W17, st17⟩ := putF X15 hx hZ hown (host := "") (Or.inl (hw _ (List.mem_of_getElem? (i := 53) rfl))) (Via.of (hw _ (List.mem_of_getElem? (i := 54) rfl))) e15 F_m E_a (Or.inl (hw _ (List.mem_of_getElem? (i := 33) rfl))) (hw _ (List.mem_of_getElem? (i := 13) rfl)) (ty := .int) (by decide) rfl rfl (g := (mkF m 28 #[.val (.ref a), .val (.ref cc)] [(.int (md + (1 : Int32))), (.ref a)])) rfl rfl (hb hby d6_28)
  have N17 := Fr.snoc X17 N12 g_a
  have Fq17 : Fld Z h17 a "java/util/AbstractList" "modCount" "I" (.int (md + (1 : Int32))) := F_m.same W17
  have E_a : Exa Z h17 a "com/example/message_ledger/messageledger/requests/ErrorCodeList" := E_a.wr W17
  have F_o : Fld Z h17 a "com/example/message_ledger/messageledger/requests/ErrorCodeList" "ordinals" "[B" (.ref b) := F_o.other W17 (Or.inr (slot_ne (Or.inr (hw _ (List.mem_of_getElem? (i := 36) rfl))) (Or.inl (hw _ (List.mem_of_getElem? (i := 33) rfl))) (by decide) (t := (.array .byte)) (t' := .int) (by decide) (by decide)))
  have E_c : Exa Z h17 cc "com/example/message_ledger/messageledger/wire/ErrorCode" := E_c.wr W17
  have F_c : Fld Z h17 cc "java/lang/Enum" "ordinal" "I" (.int o) := F_c.other W17 (Or.inl hca)
  have F_s : Fld Z h17 a "com/example/message_ledger/messageledger/requests/ErrorCodeList" "size" "I" (.int (2 : Int32)) := F_s.other W17 (Or.inr (slot_ne (Or.inl (hw _ (List.mem_of_getElem? (i := 43) rfl))) (Or.inl (hw _ (List.mem_of_getElem? (i := 33) rfl))) (by decide) (t := .int) (t' := .int) (by decide) (by decide)))
  have V_b : Arv Z h17 b k .byte n [(.int x0), (.int o), (.int x2)] (.int (0 : Int32)) := V_b.other W17 (Ne.symm hab)
  have Zs18 : n0 ≤ h17.size := Nat.le_trans Zs13 (Keep.of_wr W17).1
  have KC18 : Keep h0 h17 [a, b] := KC13.wr W17 (Or.inl (List.mem_of_getElem? (i := 0) rfl))
  have F_m := Fq17
  obtain ⟨fs, hr, hrun, hended, hW, hsame⟩ := X17.leave (v := some (.int (1 : Int32))) (fun h => by rw [Bd.returns] at h; cases h)
  refine ⟨_, _, pre16 _ ?_, hrun, hended, _, _, rfl, ?_, ⟨_, rfl⟩, hW, hsame.mono (by decide) (by decide)⟩
  · skip
    refine st17 _ ?_
    show Steps p.tables e below (T17.setTop (mkF m 31 #[.val (.ref a), .val (.ref cc)] [])) _
    refine XS.iconst X17.here hx rfl (hb hby d6_31) ?_
    show Steps p.tables e below (T17.setTop (mkF m 32 #[.val (.ref a), .val (.ref cc)] [(.int (1 : Int32))])) _
    exact retN X17 hx (t := .boolean) Bd.returns (by simp) (hb hby d6_32) hr
  · show QAdd1 Z a b cc k n md o x0 x1 x2 h0 n0 _ T17.heap _
    rw [e17]
    exact ⟨rfl, N17, KC18, F_m, F_o, F_s, V_b⟩
theorem ef_rmAdd2 (m : MethodId) (x0 : Addr) (x1 : Addr) : entryFrame m #[(.ref x0), (.ref x1)] 2 = mkF m 0 #[.val (.ref x0), .val (.ref x1)] [] := by first | (simp [entryFrame, mkF, argsToLocals, Value.category]; done) | rfl
def QAdd2 (Z : State) (a : Addr) (b : Addr) (cc : Addr) (k : ClassId) (n : Int32) (md : Int32) (o : Int32) (x0 : Int32) (x1 : Int32) (x2 : Int32) (h0 : Heap) (n0 : Nat) (v : Option Value) (h : Heap) (L : List Loc) : Prop := v = some (.int (1 : Int32)) ∧ Fr n0 L ∧ Keep h0 h [a, b] ∧ Fld Z h a "java/util/AbstractList" "modCount" "I" (.int (md + (1 : Int32))) ∧ Fld Z h a "com/example/message_ledger/messageledger/requests/ErrorCodeList" "ordinals" "[B" (.ref b) ∧ Fld Z h a "com/example/message_ledger/messageledger/requests/ErrorCodeList" "size" "I" (.int (3 : Int32)) ∧ Arv Z h b k .byte n [(.int x0), (.int x1), (.int o)] (.int (0 : Int32))
set_option maxRecDepth 65536 in
set_option maxHeartbeats 40000000 in
theorem rmAdd2 (l : Launch) (Z : State) (a0 : Array Value) (hw : ∀ d ∈ tables_1, d.before a0 Z = true) (ws : List Jvm.Cond) (a : Addr) (b : Addr) (cc : Addr) (k : ClassId) (n : Int32) (md : Int32) (o : Int32) (x0 : Int32) (x1 : Int32) (x2 : Int32) (h0 : Heap) (n0 : Nat) (Z0 : n0 ≤ h0.size) (E_a : Exa Z h0 a "com/example/message_ledger/messageledger/requests/ErrorCodeList") (F_m : Fld Z h0 a "java/util/AbstractList" "modCount" "I" (.int md)) (F_o : Fld Z h0 a "com/example/message_ledger/messageledger/requests/ErrorCodeList" "ordinals" "[B" (.ref b)) (F_s : Fld Z h0 a "com/example/message_ledger/messageledger/requests/ErrorCodeList" "size" "I" (.int (2 : Int32))) (V_b : Arv Z h0 b k .byte n [(.int x0), (.int x1), (.int x2)] (.int (0 : Int32))) (E_c : Exa Z h0 cc "com/example/message_ledger/messageledger/wire/ErrorCode") (F_c : Fld Z h0 cc "java/lang/Enum" "ordinal" "I" (.int o)) (g_a : n0 ≤ a) (g_b : n0 ≤ b) (hab : a ≠ b) (hca : cc ≠ a) (hcb : cc ≠ b) (hn : (2 : Int32) < n) (ho : nar .byte o.toInt8.toInt32 = o) :
    MetFree l (⟨"com/example/message_ledger/messageledger/requests/ErrorCodeList", "add", "(Lcom/example/message_ledger/messageledger/wire/ErrorCode;)Z"⟩ : MethodName) (head1 (Jvm.Cond.code (⟨"com/example/message_ledger/messageledger/requests/ErrorCodeList", "add", "(Lcom/example/message_ledger/messageledger/wire/ErrorCode;)Z"⟩ : MethodName) prog_61_method_2_code 2 (some .boolean) :: ws) ({ frames := 1, cells := 0, slots := 0, locals := 16 } : Room)) (fun ar UU => ar = #[(.ref a), (.ref cc)] ∧ Z.Warmed39 UU.vm ∧ UU.heap = h0) (fun _ _ _ _ _ => True) (fun _ UU oo UU' => ∃ vv LL, oo = .returned vv ∧ QAdd2 Z a b cc k n md o x0 x1 x2 h0 n0 vv UU'.heap LL ∧ FrameEnd UU oo UU' LL ({ frames := 1, cells := 0, slots := 0, locals := 16 } : Room).cells ({ frames := 1, cells := 0, slots := 0, locals := 16 } : Room).slots) := by
  refine MetFree.of_bodySF (plainFor_of_name pn_6) hisR ?_
  intro p e s m args below meth c s₁ Bd hml0 hP hK
  obtain ⟨rfl, hZ, hh⟩ := hP
  have hx := Bd.exec
  have hby := Bd.bytes
  have hml : c.maxLocals = 2 := hml0
  have hown : s.vm.findClass "com/example/message_ledger/messageledger/requests/ErrorCodeList" = some m.cls := findClass_of_methodNamed Bd.named
  have hnm := (name_of_methodNamed Bd.named Bd.method).1
  have X0 : Stand p l e ({ frames := 1, cells := 0, slots := 0, locals := 16 } : Room) s m #[(.ref a), (.ref cc)] below meth c s₁ [] 0 0 := Stand.of_body Bd
  have e0 : s₁.heap = h0 := by rw [← hh, Bd.state]; rfl
  have N0 := Fr.nil n0
  have KC0 : Keep h0 h0 [a, b] := Keep.refl h0 [a, b]
  have pre0 : ∀ tgt, Steps p.tables e below (s₁.setTop (mkF m 0 #[.val (.ref a), .val (.ref cc)] [])) tgt → Steps p.tables e below (s₁.setTop (entryFrame m #[(.ref a), (.ref cc)] 2)) tgt := fun tgt kk => castTop (ef_rmAdd2 m (a) (cc)) kk
  have pre1 : ∀ tgt, Steps p.tables e below (s₁.setTop (mkF m 1 #[.val (.ref a), .val (.ref cc)] [(.ref a)])) tgt → Steps p.tables e below (s₁.setTop (entryFrame m #[(.ref a), (.ref cc)] 2)) tgt := by
    intro tgt kk
    refine pre0 tgt ?_
    refine XS.aloadN X0.here hx rfl (hb hby d6_0) rfl rfl ?_
    show Steps p.tables e below (s₁.setTop (mkF m 1 #[.val (.ref a), .val (.ref cc)] [(.ref a)])) _
    exact kk
  obtain ⟨T2, X2, e2, st2⟩ := getF X0 hx hZ hown (host := "") (Or.inl (hw _ (List.mem_of_getElem? (i := 35) rfl))) Via.refl e0 F_o (g := (mkF m 1 #[.val (.ref a), .val (.ref cc)] [(.ref a)])) rfl rfl (hb hby d6_1)
  have pre3 : ∀ tgt, Steps p.tables e below (T2.setTop (mkF m 6 #[.val (.ref a), .val (.ref cc)] [(.ref a), (.ref a), (.ref b)])) tgt → Steps p.tables e below (s₁.setTop (entryFrame m #[(.ref a), (.ref cc)] 2)) tgt := by
    intro tgt kk
    refine pre1 tgt ?_
    refine st2 _ ?_
    show Steps p.tables e below (T2.setTop (mkF m 4 #[.val (.ref a), .val (.ref cc)] [(.ref b)])) _
    refine XS.aloadN X2.here hx rfl (hb hby d6_4) rfl rfl ?_
    show Steps p.tables e below (T2.setTop (mkF m 5 #[.val (.ref a), .val (.ref cc)] [(.ref a), (.ref b)])) _
    refine XS.dup X2.here hx rfl (hb hby d6_5) rfl rfl ?_
    show Steps p.tables e below (T2.setTop (mkF m 6 #[.val (.ref a), .val (.ref cc)] [(.ref a), (.ref a), (.ref b)])) _
    exact kk
  obtain ⟨T4, X4, e4, st4⟩ := getF X2 hx hZ hown (host := "") (Or.inl (hw _ (List.mem_of_getElem? (i := 42) rfl))) Via.refl e2 F_s (g := (mkF m 6 #[.val (.ref a), .val (.ref cc)] [(.ref a), (.ref a), (.ref b)])) rfl rfl (hb hby d6_6)
  have pre5 : ∀ tgt, Steps p.tables e below (T4.setTop (mkF m 12 #[.val (.ref a), .val (.ref cc)] [(.int (3 : Int32)), (.ref a), (.int (2 : Int32)), (.ref b)])) tgt → Steps p.tables e below (s₁.setTop (entryFrame m #[(.ref a), (.ref cc)] 2)) tgt := by
    intro tgt kk
    refine pre3 tgt ?_
    refine st4 _ ?_
    show Steps p.tables e below (T4.setTop (mkF m 9 #[.val (.ref a), .val (.ref cc)] [(.int (2 : Int32)), (.ref a), (.ref b)])) _
    refine XS.dupX1 X4.here hx rfl (hb hby d6_9) rfl rfl rfl ?_
    show Steps p.tables e below (T4.setTop (mkF m 10 #[.val (.ref a), .val (.ref cc)] [(.int (2 : Int32)), (.ref a), (.int (2 : Int32)), (.ref b)])) _
    refine XS.iconst X4.here hx rfl (hb hby d6_10) ?_
    show Steps p.tables e below (T4.setTop (mkF m 11 #[.val (.ref a), .val (.ref cc)] [(.int (1 : Int32)), (.int (2 : Int32)), (.ref a), (.int (2 : Int32)), (.ref b)])) _
    refine XS.iadd X4.here hx rfl (hb hby d6_11) rfl ?_
    show Steps p.tables e below (T4.setTop (mkF m 12 #[.val (.ref a), .val (.ref cc)] [(.int (3 : Int32)), (.ref a), (.int (2 : Int32)), (.ref b)])) _
    exact kk
  obtain ⟨T6, h6, X6, e6, W6, st6⟩ := putF X4 hx hZ hown (host := "") (Or.inl (hw _ (List.mem_of_getElem? (i := 42) rfl))) Via.refl e4 F_s E_a (Or.inl (hw _ (List.mem_of_getElem? (i := 43) rfl))) (hw _ (List.mem_of_getElem? (i := 13) rfl)) (ty := .int) (by decide) rfl rfl (g := (mkF m 12 #[.val (.ref a), .val (.ref cc)] [(.int (3 : Int32)), (.ref a), (.int (2 : Int32)), (.ref b)])) rfl rfl (hb hby d6_12)
  have N6 := Fr.snoc X6 N0 g_a
  have Fq6 : Fld Z h6 a "com/example/message_ledger/messageledger/requests/ErrorCodeList" "size" "I" (.int (3 : Int32)) := F_s.same W6
  have E_a : Exa Z h6 a "com/example/message_ledger/messageledger/requests/ErrorCodeList" := E_a.wr W6
  have F_m : Fld Z h6 a "java/util/AbstractList" "modCount" "I" (.int md) := F_m.other W6 (Or.inr (slot_ne (Or.inl (hw _ (List.mem_of_getElem? (i := 33) rfl))) (Or.inl (hw _ (List.mem_of_getElem? (i := 43) rfl))) (by decide) (t := .int) (t' := .int) (by decide) (by decide)))
  have F_o : Fld Z h6 a "com/example/message_ledger/messageledger/requests/ErrorCodeList" "ordinals" "[B" (.ref b) := F_o.other W6 (Or.inr (slot_ne (Or.inr (hw _ (List.mem_of_getElem? (i := 36) rfl))) (Or.inl (hw _ (List.mem_of_getElem? (i := 43) rfl))) (by decide) (t := (.array .byte)) (t' := .int) (by decide) (by decide)))
  have V_b : Arv Z h6 b k .byte n [(.int x0), (.int x1), (.int x2)] (.int (0 : Int32)) := V_b.other W6 (Ne.symm hab)
  have E_c : Exa Z h6 cc "com/example/message_ledger/messageledger/wire/ErrorCode" := E_c.wr W6
  have F_c : Fld Z h6 cc "java/lang/Enum" "ordinal" "I" (.int o) := F_c.other W6 (Or.inl hca)
  have Zs7 : n0 ≤ h6.size := Nat.le_trans Z0 (Keep.of_wr W6).1
  have KC7 : Keep h0 h6 [a, b] := KC0.wr W6 (Or.inl (List.mem_of_getElem? (i := 0) rfl))
  have F_s := Fq6
  have pre8 : ∀ tgt, Steps p.tables e below (T6.setTop (mkF m 16 #[.val (.ref a), .val (.ref cc)] [(.ref cc), (.int (2 : Int32)), (.ref b)])) tgt → Steps p.tables e below (s₁.setTop (entryFrame m #[(.ref a), (.ref cc)] 2)) tgt := by
    intro tgt kk
    refine pre5 tgt ?_
    refine st6 _ ?_
    show Steps p.tables e below (T6.setTop (mkF m 15 #[.val (.ref a), .val (.ref cc)] [(.int (2 : Int32)), (.ref b)])) _
    refine XS.aloadN X6.here hx rfl (hb hby d6_15) rfl rfl ?_
    show Steps p.tables e below (T6.setTop (mkF m 16 #[.val (.ref a), .val (.ref cc)] [(.ref cc), (.int (2 : Int32)), (.ref b)])) _
    exact kk
  obtain ⟨cq9, kq9, q9a, q9b, q9c⟩ := isOf hZ e6 E_c
  obtain ⟨_, _, ⟨T9, L9, k9, n9⟩, -, X9, ⟨Lc9, hQ9, l9, y9, z9⟩, st9⟩ := X6.virtualBackUp hx (x := (⟨"com/example/message_ledger/messageledger/wire/ErrorCode", "ordinal", "()I"⟩ : MethodName)) (y := (⟨"java/lang/Enum", "ordinal", "()I"⟩ : MethodName)) (owner := "java/lang/Enum") hown (mvT hZ (hw _ (List.mem_of_getElem? (i := 44) rfl))) (mvT hZ (hw _ (List.mem_of_getElem? (i := 45) rfl))) (mvT hZ (hw _ (List.mem_of_getElem? (i := 46) rfl))) (by decide) (mvT hZ (hw _ (List.mem_of_getElem? (i := 48) rfl))) (mvT hZ (hw _ (List.mem_of_getElem? (i := 47) rfl))) (backOf (W := 2) (rmOrd l Z a0 hw [] cc (o) h6 n0 Zs7 F_c) hZ (hw _ (List.mem_of_getElem? (i := 50) rfl)) (hw _ (List.mem_of_getElem? (i := 49) rfl)) (by decide) (by decide)) q9a q9c (g := (mkF m 16 #[.val (.ref a), .val (.ref cc)] [(.ref cc), (.int (2 : Int32)), (.ref b)])) rfl (by rw [hml]; rfl) (Steps.refl _) (argsL := []) (rest := [(.int (2 : Int32)), (.ref b)]) (lenOf pd___I rfl) rfl (by show 2 * 0 + _ ≤ _; exact Nat.le_of_eq rfl) (hb hby d6_16) (fun _ _ => ⟨rfl, e6, (by decide : 0 + 0 ≤ _), (by decide : 0 + 0 ≤ _)⟩)
  dsimp only [Pt.U, Pt.locs, Pt.cells, Pt.slots] at X9 l9 y9 z9 st9 hQ9
  subst l9 y9 z9
  obtain ⟨rfl, N9q, hh9⟩ := hQ9
  have N9 := Fr.app N6 N9q
  have pre10 : ∀ tgt, Steps p.tables e below (T9.setTop (mkF m 20 #[.val (.ref a), .val (.ref cc)] [(.int o.toInt8.toInt32), (.int (2 : Int32)), (.ref b)])) tgt → Steps p.tables e below (s₁.setTop (entryFrame m #[(.ref a), (.ref cc)] 2)) tgt := by
    intro tgt kk
    refine pre8 tgt ?_
    refine st9.trans ?_
    show Steps p.tables e below (T9.setTop (mkF m 19 #[.val (.ref a), .val (.ref cc)] [(.int o), (.int (2 : Int32)), (.ref b)])) _
    refine XS.i2b X9.here hx rfl (hb hby d6_19) rfl ?_
    show Steps p.tables e below (T9.setTop (mkF m 20 #[.val (.ref a), .val (.ref cc)] [(.int o.toInt8.toInt32), (.int (2 : Int32)), (.ref b)])) _
    exact kk
  obtain ⟨cl11, Ar11, aq11, aS11, aN11, aH11, aG11⟩ := id V_b
  have hin12 : ¬ ((2 : Int32) < 0 ∨ cl11.slots.size ≤ ((2 : Int32)).toNatClampNeg) := inb_of aS11 ⟨by decide, own_lt2 hn⟩
  obtain ⟨T12, h12, X12, e12, W12, st12⟩ := stB X9 hx hZ hh9 Ar11 (j := (2 : Int32)) hin12 (g := (mkF m 20 #[.val (.ref a), .val (.ref cc)] [(.int o.toInt8.toInt32), (.int (2 : Int32)), (.ref b)])) rfl rfl (hb hby d6_20)
  have N12 := Fr.snoc X12 N9 g_b
  have Vq12 : Arv Z h12 b k .byte n [(.int x0), (.int x1), (.int (nar .byte o.toInt8.toInt32))] (.int (0 : Int32)) := Arv.set Ar11 aq11 aS11 aN11 aH11 aG11 (fits_nar_byte _) W12 2 rfl (Nat.le_of_ble_eq_true rfl)
  have E_a : Exa Z h12 a "com/example/message_ledger/messageledger/requests/ErrorCodeList" := E_a.wr W12
  have F_m : Fld Z h12 a "java/util/AbstractList" "modCount" "I" (.int md) := F_m.other W12 (Or.inl hab)
  have F_o : Fld Z h12 a "com/example/message_ledger/messageledger/requests/ErrorCodeList" "ordinals" "[B" (.ref b) := F_o.other W12 (Or.inl hab)
  have E_c : Exa Z h12 cc "com/example/message_ledger/messageledger/wire/ErrorCode" := E_c.wr W12
  have F_c : Fld Z h12 cc "java/lang/Enum" "ordinal" "I" (.int o) := F_c.other W12 (Or.inl hcb)
  have F_s : Fld Z h12 a "com/example/message_ledger/messageledger/requests/ErrorCodeList" "size" "I" (.int (3 : Int32)) := F_s.other W12 (Or.inl hab)
  have Zs13 : n0 ≤ h12.size := Nat.le_trans Zs7 (Keep.of_wr W12).1
  have KC13 : Keep h0 h12 [a, b] := KC7.wr W12 (Or.inl (List.mem_of_getElem? (i := 1) rfl))
  have V_b := Vq12
  rw [ho] at V_b
  have V_b : Arv Z h12 b k .byte n [(.int x0), (.int x1), (.int o)] (.int (0 : Int32)) := V_b
  have pre14 : ∀ tgt, Steps p.tables e below (T12.setTop (mkF m 23 #[.val (.ref a), .val (.ref cc)] [(.ref a), (.ref a)])) tgt → Steps p.tables e below (s₁.setTop (entryFrame m #[(.ref a), (.ref cc)] 2)) tgt := by
    intro tgt kk
    refine pre10 tgt ?_
    refine st12 _ ?_
    show Steps p.tables e below (T12.setTop (mkF m 21 #[.val (.ref a), .val (.ref cc)] [])) _
    refine XS.aloadN X12.here hx rfl (hb hby d6_21) rfl rfl ?_
    show Steps p.tables e below (T12.setTop (mkF m 22 #[.val (.ref a), .val (.ref cc)] [(.ref a)])) _
    refine XS.dup X12.here hx rfl (hb hby d6_22) rfl rfl ?_
    show Steps p.tables e below (T12.setTop (mkF m 23 #[.val (.ref a), .val (.ref cc)] [(.ref a), (.ref a)])) _
    exact kk
  obtain ⟨T15, X15, e15, st15⟩ := getF X12 hx hZ hown (host := "") (Or.inl (hw _ (List.mem_of_getElem? (i := 53) rfl))) (Via.of (hw _ (List.mem_of_getElem? (i := 54) rfl))) e12 F_m (g := (mkF m 23 #[.val (.ref a), .val (.ref cc)] [(.ref a), (.ref a)])) rfl rfl (hb hby d6_23)
  have pre16 : ∀ tgt, Steps p.tables e below (T15.setTop (mkF m 28 #[.val (.ref a), .val (.ref cc)] [(.int (md + (1 : Int32))), (.ref a)])) tgt → Steps p.tables e below (s₁.setTop (entryFrame m #[(.ref a), (.ref cc)] 2)) tgt := by
    intro tgt kk
    refine pre14 tgt ?_
    refine st15 _ ?_
    show Steps p.tables e below (T15.setTop (mkF m 26 #[.val (.ref a), .val (.ref cc)] [(.int md), (.ref a)])) _
    refine XS.iconst X15.here hx rfl (hb hby d6_26) ?_
    show Steps p.tables e below (T15.setTop (mkF m 27 #[.val (.ref a), .val (.ref cc)] [(.int (1 : Int32)), (.int md), (.ref a)])) _
    refine XS.iadd X15.here hx rfl (hb hby d6_27) rfl ?_
    show Steps p.tables e below (T15.setTop (mkF m 28 #[.val (.ref a), .val (.ref cc)] [(.int (md + (1 : Int32))), (.ref a)])) _
    exact kk
  obtain ⟨T17, h17, X17, e17, W17, st17⟩ := putF X15 hx hZ hown (host := "") (Or.inl (hw _ (List.mem_of_getElem? (i := 53) rfl))) (Via.of (hw _ (List.mem_of_getElem? (i := 54) rfl))) e15 F_m E_a (Or.inl (hw _ (List.mem_of_getElem? (i := 33) rfl))) (hw _ (List.mem_of_getElem? (i := 13) rfl)) (ty := .int) (by decide) rfl rfl (g := (mkF m 28 #[.val (.ref a), .val (.ref cc)] [(.int (md + (1 : Int32))), (.ref a)])) rfl rfl (hb hby d6_28)
  have N17 := Fr.snoc X17 N12 g_a
  have Fq17 : Fld Z h17 a "java/util/AbstractList" "modCount" "I" (.int (md + (1 : Int32))) := F_m.same W17
  have E_a : Exa Z h17 a "com/example/message_ledger/messageledger/requests/ErrorCodeList" := E_a.wr W17
  have F_o : Fld Z h17 a "com/example/message_ledger/messageledger/requests/ErrorCodeList" "ordinals" "[B" (.ref b) := F_o.other W17 (Or.inr (slot_ne (Or.inr (hw _ (List.mem_of_getElem? (i := 36) rfl))) (Or.inl (hw _ (List.mem_of_getElem? (i := 33) rfl))) (by decide) (t := (.array .byte)) (t' := .int) (by decide) (by decide)))
  have E_c : Exa Z h17 cc "com/example/message_ledger/messageledger/wire/ErrorCode" := E_c.wr W17
  have F_c : Fld Z h17 cc "java/lang/Enum" "ordinal" "I" (.int o) := F_c.other W17 (Or.inl hca)
  have F_s : Fld Z h17 a "com/example/message_ledger/messageledger/requests/ErrorCodeList" "size" "I" (.int (3 : Int32)) := F_s.other W17 (Or.inr (slot_ne (Or.inl (hw _ (List.mem_of_getElem? (i := 43) rfl))) (Or.inl (hw _ (List.mem_of_getElem? (i := 33) rfl))) (by decide) (t := .int) (t' := .int) (by decide) (by decide)))
  have V_b : Arv Z h17 b k .byte n [(.int x0), (.int x1), (.int o)] (.int (0 : Int32)) := V_b.other W17 (Ne.symm hab)
  have Zs18 : n0 ≤ h17.size := Nat.le_trans Zs13 (Keep.of_wr W17).1
  have KC18 : Keep h0 h17 [a, b] := KC13.wr W17 (Or.inl (List.mem_of_getElem? (i := 0) rfl))
  have F_m := Fq17
  obtain ⟨fs, hr, hrun, hended, hW, hsame⟩ := X17.leave (v := some (.int (1 : Int32))) (fun h => by rw [Bd.returns] at h; cases h)
  refine ⟨_, _, pre16 _ ?_, hrun, hended, _, _, rfl, ?_, ⟨_, rfl⟩, hW, hsame.mono (by decide) (by decide)⟩
  · skip
    refine st17 _ ?_
    show Steps p.tables e below (T17.setTop (mkF m 31 #[.val (.ref a), .val (.ref cc)] [])) _
    refine XS.iconst X17.here hx rfl (hb hby d6_31) ?_
    show Steps p.tables e below (T17.setTop (mkF m 32 #[.val (.ref a), .val (.ref cc)] [(.int (1 : Int32))])) _
    exact retN X17 hx (t := .boolean) Bd.returns (by simp) (hb hby d6_32) hr
  · show QAdd2 Z a b cc k n md o x0 x1 x2 h0 n0 _ T17.heap _
    rw [e17]
    exact ⟨rfl, N17, KC18, F_m, F_o, F_s, V_b⟩
theorem d9_0 : decode prog_61_method_3_code 0 = .ok (.iload_n 1, 1) := by decide +kernel
theorem d9_1 : decode prog_61_method_3_code 1 = .ok (.aload_n 0, 1) := by decide +kernel
theorem d9_2 : decode prog_61_method_3_code 2 = .ok (.getfield 13, 3) := by decide +kernel
theorem d9_5 : decode prog_61_method_3_code 5 = .ok (.invokestatic 26, 3) := by decide +kernel
theorem d9_8 : decode prog_61_method_3_code 8 = .ok (.pop, 1) := by decide +kernel
theorem d9_9 : decode prog_61_method_3_code 9 = .ok (.getstatic 32, 3) := by decide +kernel
theorem d9_12 : decode prog_61_method_3_code 12 = .ok (.aload_n 0, 1) := by decide +kernel
theorem d9_13 : decode prog_61_method_3_code 13 = .ok (.getfield 7, 3) := by decide +kernel
theorem d9_16 : decode prog_61_method_3_code 16 = .ok (.iload_n 1, 1) := by decide +kernel
theorem d9_17 : decode prog_61_method_3_code 17 = .ok (.baload, 1) := by decide +kernel
theorem d9_18 : decode prog_61_method_3_code 18 = .ok (.aaload, 1) := by decide +kernel
theorem d9_19 : decode prog_61_method_3_code 19 = .ok (.areturn, 1) := by decide +kernel
theorem pn_9 : plainName "com/example/message_ledger/messageledger/requests/ErrorCodeList" = true := by first | (simp [plainName, overriddenIn]; done) | decide +kernel
theorem pd__II_I : parseMethodDescriptor "(II)I" = some ⟨[.int, .int], some .int⟩ := by decide +kernel
theorem ef_rmGet0_3 (m : MethodId) (x0 : Addr) (x1 : Int32) : entryFrame m #[(.ref x0), (.int x1)] 2 = mkF m 0 #[.val (.ref x0), .val (.int x1)] [] := by first | (simp [entryFrame, mkF, argsToLocals, Value.category]; done) | rfl
def QGet0_3 (Z : State) (a : Addr) (b : Addr) (k : ClassId) (n : Int32) (x0 : Int32) (x1 : Int32) (x2 : Int32) (aC : Addr) (kC : ClassId) (A : Nat → Addr) (h0 : Heap) (n0 : Nat) (v : Option Value) (h : Heap) (L : List Loc) : Prop := v = some (.ref (A x0.toNatClampNeg)) ∧ Fr n0 L ∧ h = h0
set_option maxRecDepth 65536 in
set_option maxHeartbeats 40000000 in
theorem rmGet0_3 (l : Launch) (Z : State) (a0 : Array Value) (hw : ∀ d ∈ tables_1, d.before a0 Z = true) (ws : List Jvm.Cond) (a : Addr) (b : Addr) (k : ClassId) (n : Int32) (x0 : Int32) (x1 : Int32) (x2 : Int32) (aC : Addr) (kC : ClassId) (A : Nat → Addr) (h0 : Heap) (n0 : Nat) (Z0 : n0 ≤ h0.size) (F_o : Fld Z h0 a "com/example/message_ledger/messageledger/requests/ErrorCodeList" "ordinals" "[B" (.ref b)) (F_s : Fld Z h0 a "com/example/message_ledger/messageledger/requests/ErrorCodeList" "size" "I" (.int (3 : Int32))) (V_b : Arv Z h0 b k .byte n [(.int x0), (.int x1), (.int x2)] (.int (0 : Int32))) (S_CODES : Sta Z h0 "com/example/message_ledger/messageledger/requests/ErrorCodeList" "CODES" "[Lcom/example/message_ledger/messageledger/wire/ErrorCode;" (.ref aC)) (V_C : Arv Z h0 aC kC (.object "com/example/message_ledger/messageledger/wire/ErrorCode") (19 : Int32) (own_codes A) .null) (hn : (2 : Int32) < n) (hxr : ¬ x0 < 0 ∧ x0 < (19 : Int32)) :
    MetFree l (⟨"com/example/message_ledger/messageledger/requests/ErrorCodeList", "get", "(I)Lcom/example/message_ledger/messageledger/wire/ErrorCode;"⟩ : MethodName) (head1 (Jvm.Cond.code (⟨"com/example/message_ledger/messageledger/requests/ErrorCodeList", "get", "(I)Lcom/example/message_ledger/messageledger/wire/ErrorCode;"⟩ : MethodName) prog_61_method_3_code 2 (some (.object "com/example/message_ledger/messageledger/wire/ErrorCode")) :: ws) ({ frames := 2, cells := 0, slots := 0, locals := 30 } : Room)) (fun ar UU => ar = #[(.ref a), (.int (0 : Int32))] ∧ Z.Warmed39 UU.vm ∧ UU.heap = h0) (fun _ _ _ _ _ => True) (fun _ UU oo UU' => ∃ vv LL, oo = .returned vv ∧ QGet0_3 Z a b k n x0 x1 x2 aC kC A h0 n0 vv UU'.heap LL ∧ FrameEnd UU oo UU' LL ({ frames := 2, cells := 0, slots := 0, locals := 30 } : Room).cells ({ frames := 2, cells := 0, slots := 0, locals := 30 } : Room).slots) := by
  refine MetFree.of_bodySF (plainFor_of_name pn_9) hisR ?_
  intro p e s m args below meth c s₁ Bd hml0 hP hK
  obtain ⟨rfl, hZ, hh⟩ := hP
  have hx := Bd.exec
  have hby := Bd.bytes
  have hml : c.maxLocals = 2 := hml0
  have hown : s.vm.findClass "com/example/message_ledger/messageledger/requests/ErrorCodeList" = some m.cls := findClass_of_methodNamed Bd.named
  have hnm := (name_of_methodNamed Bd.named Bd.method).1
  have X0 : Stand p l e ({ frames := 2, cells := 0, slots := 0, locals := 30 } : Room) s m #[(.ref a), (.int (0 : Int32))] below meth c s₁ [] 0 0 := Stand.of_body Bd
  have e0 : s₁.heap = h0 := by rw [← hh, Bd.state]; rfl
  have N0 := Fr.nil n0
  have KC0 : Keep h0 h0 [] := Keep.refl h0 []
  have pre0 : ∀ tgt, Steps p.tables e below (s₁.setTop (mkF m 0 #[.val (.ref a), .val (.int (0 : Int32))] [])) tgt → Steps p.tables e below (s₁.setTop (entryFrame m #[(.ref a), (.int (0 : Int32))] 2)) tgt := fun tgt kk => castTop (ef_rmGet0_3 m (a) ((0 : Int32))) kk
  have pre1 : ∀ tgt, Steps p.tables e below (s₁.setTop (mkF m 2 #[.val (.ref a), .val (.int (0 : Int32))] [(.ref a), (.int (0 : Int32))])) tgt → Steps p.tables e below (s₁.setTop (entryFrame m #[(.ref a), (.int (0 : Int32))] 2)) tgt := by
    intro tgt kk
    refine pre0 tgt ?_
    refine XS.iloadN X0.here hx rfl (hb hby d9_0) rfl ?_
    show Steps p.tables e below (s₁.setTop (mkF m 1 #[.val (.ref a), .val (.int (0 : Int32))] [(.int (0 : Int32))])) _
    refine XS.aloadN X0.here hx rfl (hb hby d9_1) rfl rfl ?_
    show Steps p.tables e below (s₁.setTop (mkF m 2 #[.val (.ref a), .val (.int (0 : Int32))] [(.ref a), (.int (0 : Int32))])) _
    exact kk
  obtain ⟨T2, X2, e2, st2⟩ := getF X0 hx hZ hown (host := "") (Or.inl (hw _ (List.mem_of_getElem? (i := 42) rfl))) Via.refl e0 F_s (g := (mkF m 2 #[.val (.ref a), .val (.int (0 : Int32))] [(.ref a), (.int (0 : Int32))])) rfl rfl (hb hby d9_2)
  have pre3 : ∀ tgt, Steps p.tables e below (T2.setTop (mkF m 5 #[.val (.ref a), .val (.int (0 : Int32))] [(.int (3 : Int32)), (.int (0 : Int32))])) tgt → Steps p.tables e below (s₁.setTop (entryFrame m #[(.ref a), (.int (0 : Int32))] 2)) tgt := by
    intro tgt kk
    refine pre1 tgt ?_
    refine st2 _ ?_
    show Steps p.tables e below (T2.setTop (mkF m 5 #[.val (.ref a), .val (.int (0 : Int32))] [(.int (3 : Int32)), (.int (0 : Int32))])) _
    exact kk
  obtain ⟨_, _, ⟨T4, L4, k4, n4⟩, -, X4, ⟨Lc4, hQ4, l4, y4, z4⟩, st4⟩ := Jvm.LawKit.callS X2 hx (y := (⟨"java/util/Objects", "checkIndex", "(II)I"⟩ : MethodName)) hown (mvT hZ (hw _ (List.mem_of_getElem? (i := 65) rfl))) (mvT hZ (hw _ (List.mem_of_getElem? (i := 66) rfl))) (mvT hZ (hw _ (List.mem_of_getElem? (i := 67) rfl))) (mvT hZ (hw _ (List.mem_of_getElem? (i := 68) rfl))) (by decide) (backOf (W := 0) (rmObj l Z a0 hw [] ((0 : Int32)) ((3 : Int32)) h0 n0 Z0 (by decide) (by decide)) hZ (hw _ (List.mem_of_getElem? (i := 68) rfl)) (hw _ (List.mem_of_getElem? (i := 67) rfl)) (by decide) (by decide)) (g := (mkF m 5 #[.val (.ref a), .val (.int (0 : Int32))] [(.int (3 : Int32)), (.int (0 : Int32))])) rfl (by rw [hml]; rfl) (argsL := [(.int (0 : Int32)), (.int (3 : Int32))]) (rest := []) (lenOf pd__II_I rfl) rfl (by show 2 * 0 + _ ≤ _; exact Nat.le_of_eq rfl) (hb hby d9_5) (fun _ _ => ⟨rfl, e2, (by decide : 0 + 0 ≤ _), (by decide : 0 + 0 ≤ _)⟩)
  dsimp only [Pt.U, Pt.locs, Pt.cells, Pt.slots] at X4 l4 y4 z4 st4 hQ4
  subst l4 y4 z4
  obtain ⟨rfl, N4q, hh4⟩ := hQ4
  have N4 := Fr.app N0 N4q
  have pre5 : ∀ tgt, Steps p.tables e below (T4.setTop (mkF m 9 #[.val (.ref a), .val (.int (0 : Int32))] [])) tgt → Steps p.tables e below (s₁.setTop (entryFrame m #[(.ref a), (.int (0 : Int32))] 2)) tgt := by
    intro tgt kk
    refine pre3 tgt ?_
    refine st4 _ ?_
    show Steps p.tables e below (T4.setTop (mkF m 8 #[.val (.ref a), .val (.int (0 : Int32))] [(.int (0 : Int32))])) _
    refine XS.pop X4.here hx rfl (hb hby d9_8) rfl rfl ?_
    show Steps p.tables e below (T4.setTop (mkF m 9 #[.val (.ref a), .val (.int (0 : Int32))] [])) _
    exact kk
  obtain ⟨T6, X6, e6, st6⟩ := getS X4 hx hZ hown (host := "") (hw _ (List.mem_of_getElem? (i := 73) rfl)) Via.refl hh4 S_CODES (g := (mkF m 9 #[.val (.ref a), .val (.int (0 : Int32))] [])) rfl (hb hby d9_9)
  have pre7 : ∀ tgt, Steps p.tables e below (T6.setTop (mkF m 13 #[.val (.ref a), .val (.int (0 : Int32))] [(.ref a), (.ref aC)])) tgt → Steps p.tables e below (s₁.setTop (entryFrame m #[(.ref a), (.int (0 : Int32))] 2)) tgt := by
    intro tgt kk
    refine pre5 tgt ?_
    refine st6 _ ?_
    show Steps p.tables e below (T6.setTop (mkF m 12 #[.val (.ref a), .val (.int (0 : Int32))] [(.ref aC)])) _
    refine XS.aloadN X6.here hx rfl (hb hby d9_12) rfl rfl ?_
    show Steps p.tables e below (T6.setTop (mkF m 13 #[.val (.ref a), .val (.int (0 : Int32))] [(.ref a), (.ref aC)])) _
    exact kk
  obtain ⟨T8, X8, e8, st8⟩ := getF X6 hx hZ hown (host := "") (Or.inl (hw _ (List.mem_of_getElem? (i := 35) rfl))) Via.refl e6 F_o (g := (mkF m 13 #[.val (.ref a), .val (.int (0 : Int32))] [(.ref a), (.ref aC)])) rfl rfl (hb hby d9_13)
  have pre9 : ∀ tgt, Steps p.tables e below (T8.setTop (mkF m 17 #[.val (.ref a), .val (.int (0 : Int32))] [(.int (0 : Int32)), (.ref b), (.ref aC)])) tgt → Steps p.tables e below (s₁.setTop (entryFrame m #[(.ref a), (.int (0 : Int32))] 2)) tgt := by
    intro tgt kk
    refine pre7 tgt ?_
    refine st8 _ ?_
    show Steps p.tables e below (T8.setTop (mkF m 16 #[.val (.ref a), .val (.int (0 : Int32))] [(.ref b), (.ref aC)])) _
    refine XS.iloadN X8.here hx rfl (hb hby d9_16) rfl ?_
    show Steps p.tables e below (T8.setTop (mkF m 17 #[.val (.ref a), .val (.int (0 : Int32))] [(.int (0 : Int32)), (.ref b), (.ref aC)])) _
    exact kk
  obtain ⟨cl10, Ar10, aq10, aS10, aN10, aH10, aG10⟩ := id V_b
  have hin11 : ¬ ((0 : Int32) < 0 ∨ cl10.slots.size ≤ ((0 : Int32)).toNatClampNeg) := inb_of aS10 ⟨by decide, own_lt0 hn⟩
  have hat11 : cl10.slots[((0 : Int32)).toNatClampNeg]? = some (.int x0) := Has.at aH10 hin11 rfl
  have pre12 : ∀ tgt, Steps p.tables e below (T8.setTop (mkF m 18 #[.val (.ref a), .val (.int (0 : Int32))] [(.int x0), (.ref aC)])) tgt → Steps p.tables e below (s₁.setTop (entryFrame m #[(.ref a), (.int (0 : Int32))] 2)) tgt := by
    intro tgt kk
    refine pre9 tgt ?_
    refine X8.baloadBytes hx (j := (0 : Int32)) (v := (.int x0)) (by rw [e8]; exact Ar10.1) (State.isArrayOf_alike hZ.alike Ar10.2.1) Ar10.2.2 hin11 hat11 (g := (mkF m 17 #[.val (.ref a), .val (.int (0 : Int32))] [(.int (0 : Int32)), (.ref b), (.ref aC)])) rfl rfl (hb hby d9_17) _ ?_
    show Steps p.tables e below (T8.setTop (mkF m 18 #[.val (.ref a), .val (.int (0 : Int32))] [(.int x0), (.ref aC)])) _
    exact kk
  obtain ⟨cl13, Ar13, aq13, aS13, aN13, aH13, aG13⟩ := id V_C
  have hin14 : ¬ (x0 < 0 ∨ cl13.slots.size ≤ (x0).toNatClampNeg) := inb_of aS13 hxr
  have hat14 : cl13.slots[(x0).toNatClampNeg]? = some (.ref (A x0.toNatClampNeg)) := Has.at aH13 hin14 (own_code hxr)
  obtain ⟨fs, hr, hrun, hended, hW, hsame⟩ := X8.leave (v := some (.ref (A x0.toNatClampNeg))) (fun h => by rw [Bd.returns] at h; cases h)
  refine ⟨_, _, pre12 _ ?_, hrun, hended, _, _, rfl, ?_, ⟨_, rfl⟩, hW, hsame.mono (by decide) (by decide)⟩
  · skip
    refine X8.aaload hx (j := x0) (v := (.ref (A x0.toNatClampNeg))) (by rw [e8]; exact Ar13.1) (State.isArrayOf_alike hZ.alike Ar13.2.1) rfl Ar13.2.2 hin14 hat14 (g := (mkF m 18 #[.val (.ref a), .val (.int (0 : Int32))] [(.int x0), (.ref aC)])) rfl rfl (hb hby d9_18) _ ?_
    show Steps p.tables e below (T8.setTop (mkF m 19 #[.val (.ref a), .val (.int (0 : Int32))] [(.ref (A x0.toNatClampNeg))])) _
    exact retOut X8 hx Bd.returns rfl (Or.inr (Or.inr (Or.inr (Or.inr ⟨rfl, rfl, rfl⟩)))) (hb hby d9_19) hr
  · show QGet0_3 Z a b k n x0 x1 x2 aC kC A h0 n0 _ T8.heap _
    rw [e8]
    exact ⟨rfl, N4, rfl⟩
theorem ef_rmGet1_3 (m : MethodId) (x0 : Addr) (x1 : Int32) : entryFrame m #[(.ref x0), (.int x1)] 2 = mkF m 0 #[.val (.ref x0), .val (.int x1)] [] := by first | (simp [entryFrame, mkF, argsToLocals, Value.category]; done) | rfl
def QGet1_3 (Z : State) (a : Addr) (b : Addr) (k : ClassId) (n : Int32) (x0 : Int32) (x1 : Int32) (x2 : Int32) (aC : Addr) (kC : ClassId) (A : Nat → Addr) (h0 : Heap) (n0 : Nat) (v : Option Value) (h : Heap) (L : List Loc) : Prop := v = some (.ref (A x1.toNatClampNeg)) ∧ Fr n0 L ∧ h = h0
set_option maxRecDepth 65536 in
set_option maxHeartbeats 40000000 in
theorem rmGet1_3 (l : Launch) (Z : State) (a0 : Array Value) (hw : ∀ d ∈ tables_1, d.before a0 Z = true) (ws : List Jvm.Cond) (a : Addr) (b : Addr) (k : ClassId) (n : Int32) (x0 : Int32) (x1 : Int32) (x2 : Int32) (aC : Addr) (kC : ClassId) (A : Nat → Addr) (h0 : Heap) (n0 : Nat) (Z0 : n0 ≤ h0.size) (F_o : Fld Z h0 a "com/example/message_ledger/messageledger/requests/ErrorCodeList" "ordinals" "[B" (.ref b)) (F_s : Fld Z h0 a "com/example/message_ledger/messageledger/requests/ErrorCodeList" "size" "I" (.int (3 : Int32))) (V_b : Arv Z h0 b k .byte n [(.int x0), (.int x1), (.int x2)] (.int (0 : Int32))) (S_CODES : Sta Z h0 "com/example/message_ledger/messageledger/requests/ErrorCodeList" "CODES" "[Lcom/example/message_ledger/messageledger/wire/ErrorCode;" (.ref aC)) (V_C : Arv Z h0 aC kC (.object "com/example/message_ledger/messageledger/wire/ErrorCode") (19 : Int32) (own_codes A) .null) (hn : (2 : Int32) < n) (hxr : ¬ x1 < 0 ∧ x1 < (19 : Int32)) :
    MetFree l (⟨"com/example/message_ledger/messageledger/requests/ErrorCodeList", "get", "(I)Lcom/example/message_ledger/messageledger/wire/ErrorCode;"⟩ : MethodName) (head1 (Jvm.Cond.code (⟨"com/example/message_ledger/messageledger/requests/ErrorCodeList", "get", "(I)Lcom/example/message_ledger/messageledger/wire/ErrorCode;"⟩ : MethodName) prog_61_method_3_code 2 (some (.object "com/example/message_ledger/messageledger/wire/ErrorCode")) :: ws) ({ frames := 2, cells := 0, slots := 0, locals := 30 } : Room)) (fun ar UU => ar = #[(.ref a), (.int (1 : Int32))] ∧ Z.Warmed39 UU.vm ∧ UU.heap = h0) (fun _ _ _ _ _ => True) (fun _ UU oo UU' => ∃ vv LL, oo = .returned vv ∧ QGet1_3 Z a b k n x0 x1 x2 aC kC A h0 n0 vv UU'.heap LL ∧ FrameEnd UU oo UU' LL ({ frames := 2, cells := 0, slots := 0, locals := 30 } : Room).cells ({ frames := 2, cells := 0, slots := 0, locals := 30 } : Room).slots) := by
  refine MetFree.of_bodySF (plainFor_of_name pn_9) hisR ?_
  intro p e s m args below meth c s₁ Bd hml0 hP hK
  obtain ⟨rfl, hZ, hh⟩ := hP
  have hx := Bd.exec
  have hby := Bd.bytes
  have hml : c.maxLocals = 2 := hml0
  have hown : s.vm.findClass "com/example/message_ledger/messageledger/requests/ErrorCodeList" = some m.cls := findClass_of_methodNamed Bd.named
  have hnm := (name_of_methodNamed Bd.named Bd.method).1
  have X0 : Stand p l e ({ frames := 2, cells := 0, slots := 0, locals := 30 } : Room) s m #[(.ref a), (.int (1 : Int32))] below meth c s₁ [] 0 0 := Stand.of_body Bd
  have e0 : s₁.heap = h0 := by rw [← hh, Bd.state]; rfl
  have N0 := Fr.nil n0
  have KC0 : Keep h0 h0 [] := Keep.refl h0 []
  have pre0 : ∀ tgt, Steps p.tables e below (s₁.setTop (mkF m 0 #[.val (.ref a), .val (.int (1 : Int32))] [])) tgt → Steps p.tables e below (s₁.setTop (entryFrame m #[(.ref a), (.int (1 : Int32))] 2)) tgt := fun tgt kk => castTop (ef_rmGet1_3 m (a) ((1 : Int32))) kk
  have pre1 : ∀ tgt, Steps p.tables e below (s₁.setTop (mkF m 2 #[.val (.ref a), .val (.int (1 : Int32))] [(.ref a), (.int (1 : Int32))])) tgt → Steps p.tables e below (s₁.setTop (entryFrame m #[(.ref a), (.int (1 : Int32))] 2)) tgt := by
    intro tgt kk
    refine pre0 tgt ?_
    refine XS.iloadN X0.here hx rfl (hb hby d9_0) rfl ?_
    show Steps p.tables e below (s₁.setTop (mkF m 1 #[.val (.ref a), .val (.int (1 : Int32))] [(.int (1 : Int32))])) _
    refine XS.aloadN X0.here hx rfl (hb hby d9_1) rfl rfl ?_
    show Steps p.tables e below (s₁.setTop (mkF m 2 #[.val (.ref a), .val (.int (1 : Int32))] [(.ref a), (.int (1 : Int32))])) _
    exact kk
  obtain ⟨T2, X2, e2, st2⟩ := getF X0 hx hZ hown (host := "") (Or.inl (hw _ (List.mem_of_getElem? (i := 42) rfl))) Via.refl e0 F_s (g := (mkF m 2 #[.val (.ref a), .val (.int (1 : Int32))] [(.ref a), (.int (1 : Int32))])) rfl rfl (hb hby d9_2)
  have pre3 : ∀ tgt, Steps p.tables e below (T2.setTop (mkF m 5 #[.val (.ref a), .val (.int (1 : Int32))] [(.int (3 : Int32)), (.int (1 : Int32))])) tgt → Steps p.tables e below (s₁.setTop (entryFrame m #[(.ref a), (.int (1 : Int32))] 2)) tgt := by
    intro tgt kk
    refine pre1 tgt ?_
    refine st2 _ ?_
    show Steps p.tables e below (T2.setTop (mkF m 5 #[.val (.ref a), .val (.int (1 : Int32))] [(.int (3 : Int32)), (.int (1 : Int32))])) _
    exact kk
  obtain ⟨_, _, ⟨T4, L4, k4, n4⟩, -, X4, ⟨Lc4, hQ4, l4, y4, z4⟩, st4⟩ := Jvm.LawKit.callS X2 hx (y := (⟨"java/util/Objects", "checkIndex", "(II)I"⟩ : MethodName)) hown (mvT hZ (hw _ (List.mem_of_getElem? (i := 65) rfl))) (mvT hZ (hw _ (List.mem_of_getElem? (i := 66) rfl))) (mvT hZ (hw _ (List.mem_of_getElem? (i := 67) rfl))) (mvT hZ (hw _ (List.mem_of_getElem? (i := 68) rfl))) (by decide) (backOf (W := 0) (rmObj l Z a0 hw [] ((1 : Int32)) ((3 : Int32)) h0 n0 Z0 (by decide) (by decide)) hZ (hw _ (List.mem_of_getElem? (i := 68) rfl)) (hw _ (List.mem_of_getElem? (i := 67) rfl)) (by decide) (by decide)) (g := (mkF m 5 #[.val (.ref a), .val (.int (1 : Int32))] [(.int (3 : Int32)), (.int (1 : Int32))])) rfl (by rw [hml]; rfl) (argsL := [(.int (1 : Int32)), (.int (3 : Int32))]) (rest := []) (lenOf pd__II_I rfl) rfl (by show 2 * 0 + _ ≤ _; exact Nat.le_of_eq rfl) (hb hby d9_5) (fun _ _ => ⟨rfl, e2, (by decide : 0 + 0 ≤ _), (by decide : 0 + 0 ≤ _)⟩)
  dsimp only [Pt.U, Pt.locs, Pt.cells, Pt.slots] at X4 l4 y4 z4 st4 hQ4
  subst l4 y4 z4
  obtain ⟨rfl, N4q, hh4⟩ := hQ4
  have N4 := Fr.app N0 N4q
  have pre5 : ∀ tgt, Steps p.tables e below (T4.setTop (mkF m 9 #[.val (.ref a), .val (.int (1 : Int32))] [])) tgt → Steps p.tables e below (s₁.setTop (entryFrame m #[(.ref a), (.int (1 : Int32))] 2)) tgt := by
    intro tgt kk
    refine pre3 tgt ?_
    refine st4 _ ?_
    show Steps p.tables e below (T4.setTop (mkF m 8 #[.val (.ref a), .val (.int (1 : Int32))] [(.int (1 : Int32))])) _
    refine XS.pop X4.here hx rfl (hb hby d9_8) rfl rfl ?_
    show Steps p.tables e below (T4.setTop (mkF m 9 #[.val (.ref a), .val (.int (1 : Int32))] [])) _
    exact kk
  obtain ⟨T6, X6, e6, st6⟩ := getS X4 hx hZ hown (host := "") (hw _ (List.mem_of_getElem? (i := 73) rfl)) Via.refl hh4 S_CODES (g := (mkF m 9 #[.val (.ref a), .val (.int (1 : Int32))] [])) rfl (hb hby d9_9)
  have pre7 : ∀ tgt, Steps p.tables e below (T6.setTop (mkF m 13 #[.val (.ref a), .val (.int (1 : Int32))] [(.ref a), (.ref aC)])) tgt → Steps p.tables e below (s₁.setTop (entryFrame m #[(.ref a), (.int (1 : Int32))] 2)) tgt := by
    intro tgt kk
    refine pre5 tgt ?_
    refine st6 _ ?_
    show Steps p.tables e below (T6.setTop (mkF m 12 #[.val (.ref a), .val (.int (1 : Int32))] [(.ref aC)])) _
    refine XS.aloadN X6.here hx rfl (hb hby d9_12) rfl rfl ?_
    show Steps p.tables e below (T6.setTop (mkF m 13 #[.val (.ref a), .val (.int (1 : Int32))] [(.ref a), (.ref aC)])) _
    exact kk
  obtain ⟨T8, X8, e8, st8⟩ := getF X6 hx hZ hown (host := "") (Or.inl (hw _ (List.mem_of_getElem? (i := 35) rfl))) Via.refl e6 F_o (g := (mkF m 13 #[.val (.ref a), .val (.int (1 : Int32))] [(.ref a), (.ref aC)])) rfl rfl (hb hby d9_13)
  have pre9 : ∀ tgt, Steps p.tables e below (T8.setTop (mkF m 17 #[.val (.ref a), .val (.int (1 : Int32))] [(.int (1 : Int32)), (.ref b), (.ref aC)])) tgt → Steps p.tables e below (s₁.setTop (entryFrame m #[(.ref a), (.int (1 : Int32))] 2)) tgt := by
    intro tgt kk
    refine pre7 tgt ?_
    refine st8 _ ?_
    show Steps p.tables e below (T8.setTop (mkF m 16 #[.val (.ref a), .val (.int (1 : Int32))] [(.ref b), (.ref aC)])) _
    refine XS.iloadN X8.here hx rfl (hb hby d9_16) rfl ?_
    show Steps p.tables e below (T8.setTop (mkF m 17 #[.val (.ref a), .val (.int (1 : Int32))] [(.int (1 : Int32)), (.ref b), (.ref aC)])) _
    exact kk
  obtain ⟨cl10, Ar10, aq10, aS10, aN10, aH10, aG10⟩ := id V_b
  have hin11 : ¬ ((1 : Int32) < 0 ∨ cl10.slots.size ≤ ((1 : Int32)).toNatClampNeg) := inb_of aS10 ⟨by decide, own_lt1 hn⟩
  have hat11 : cl10.slots[((1 : Int32)).toNatClampNeg]? = some (.int x1) := Has.at aH10 hin11 rfl
  have pre12 : ∀ tgt, Steps p.tables e below (T8.setTop (mkF m 18 #[.val (.ref a), .val (.int (1 : Int32))] [(.int x1), (.ref aC)])) tgt → Steps p.tables e below (s₁.setTop (entryFrame m #[(.ref a), (.int (1 : Int32))] 2)) tgt := by
    intro tgt kk
    refine pre9 tgt ?_
    refine X8.baloadBytes hx (j := (1 : Int32)) (v := (.int x1)) (by rw [e8]; exact Ar10.1) (State.isArrayOf_alike hZ.alike Ar10.2.1) Ar10.2.2 hin11 hat11 (g := (mkF m 17 #[.val (.ref a), .val (.int (1 : Int32))] [(.int (1 : Int32)), (.ref b), (.ref aC)])) rfl rfl (hb hby d9_17) _ ?_
    show Steps p.tables e below (T8.setTop (mkF m 18 #[.val (.ref a), .val (.int (1 : Int32))] [(.int x1), (.ref aC)])) _
    exact kk
  obtain ⟨cl13, Ar13, aq13, aS13, aN13, aH13, aG13⟩ := id V_C
  have hin14 : ¬ (x1 < 0 ∨ cl13.slots.size ≤ (x1).toNatClampNeg) := inb_of aS13 hxr
  have hat14 : cl13.slots[(x1).toNatClampNeg]? = some (.ref (A x1.toNatClampNeg)) := Has.at aH13 hin14 (own_code hxr)
  obtain ⟨fs, hr, hrun, hended, hW, hsame⟩ := X8.leave (v := some (.ref (A x1.toNatClampNeg))) (fun h => by rw [Bd.returns] at h; cases h)
  refine ⟨_, _, pre12 _ ?_, hrun, hended, _, _, rfl, ?_, ⟨_, rfl⟩, hW, hsame.mono (by decide) (by decide)⟩
  · skip
    refine X8.aaload hx (j := x1) (v := (.ref (A x1.toNatClampNeg))) (by rw [e8]; exact Ar13.1) (State.isArrayOf_alike hZ.alike Ar13.2.1) rfl Ar13.2.2 hin14 hat14 (g := (mkF m 18 #[.val (.ref a), .val (.int (1 : Int32))] [(.int x1), (.ref aC)])) rfl rfl (hb hby d9_18) _ ?_
    show Steps p.tables e below (T8.setTop (mkF m 19 #[.val (.ref a), .val (.int (1 : Int32))] [(.ref (A x1.toNatClampNeg))])) _
    exact retOut X8 hx Bd.returns rfl (Or.inr (Or.inr (Or.inr (Or.inr ⟨rfl, rfl, rfl⟩)))) (hb hby d9_19) hr
  · show QGet1_3 Z a b k n x0 x1 x2 aC kC A h0 n0 _ T8.heap _
    rw [e8]
    exact ⟨rfl, N4, rfl⟩
theorem ef_rmGet2_3 (m : MethodId) (x0 : Addr) (x1 : Int32) : entryFrame m #[(.ref x0), (.int x1)] 2 = mkF m 0 #[.val (.ref x0), .val (.int x1)] [] := by first | (simp [entryFrame, mkF, argsToLocals, Value.category]; done) | rfl
def QGet2_3 (Z : State) (a : Addr) (b : Addr) (k : ClassId) (n : Int32) (x0 : Int32) (x1 : Int32) (x2 : Int32) (aC : Addr) (kC : ClassId) (A : Nat → Addr) (h0 : Heap) (n0 : Nat) (v : Option Value) (h : Heap) (L : List Loc) : Prop := v = some (.ref (A x2.toNatClampNeg)) ∧ Fr n0 L ∧ h = h0
set_option maxRecDepth 65536 in
set_option maxHeartbeats 40000000 in
theorem rmGet2_3 (l : Launch) (Z : State) (a0 : Array Value) (hw : ∀ d ∈ tables_1, d.before a0 Z = true) (ws : List Jvm.Cond) (a : Addr) (b : Addr) (k : ClassId) (n : Int32) (x0 : Int32) (x1 : Int32) (x2 : Int32) (aC : Addr) (kC : ClassId) (A : Nat → Addr) (h0 : Heap) (n0 : Nat) (Z0 : n0 ≤ h0.size) (F_o : Fld Z h0 a "com/example/message_ledger/messageledger/requests/ErrorCodeList" "ordinals" "[B" (.ref b)) (F_s : Fld Z h0 a "com/example/message_ledger/messageledger/requests/ErrorCodeList" "size" "I" (.int (3 : Int32))) (V_b : Arv Z h0 b k .byte n [(.int x0), (.int x1), (.int x2)] (.int (0 : Int32))) (S_CODES : Sta Z h0 "com/example/message_ledger/messageledger/requests/ErrorCodeList" "CODES" "[Lcom/example/message_ledger/messageledger/wire/ErrorCode;" (.ref aC)) (V_C : Arv Z h0 aC kC (.object "com/example/message_ledger/messageledger/wire/ErrorCode") (19 : Int32) (own_codes A) .null) (hn : (2 : Int32) < n) (hxr : ¬ x2 < 0 ∧ x2 < (19 : Int32)) :
    MetFree l (⟨"com/example/message_ledger/messageledger/requests/ErrorCodeList", "get", "(I)Lcom/example/message_ledger/messageledger/wire/ErrorCode;"⟩ : MethodName) (head1 (Jvm.Cond.code (⟨"com/example/message_ledger/messageledger/requests/ErrorCodeList", "get", "(I)Lcom/example/message_ledger/messageledger/wire/ErrorCode;"⟩ : MethodName) prog_61_method_3_code 2 (some (.object "com/example/message_ledger/messageledger/wire/ErrorCode")) :: ws) ({ frames := 2, cells := 0, slots := 0, locals := 30 } : Room)) (fun ar UU => ar = #[(.ref a), (.int (2 : Int32))] ∧ Z.Warmed39 UU.vm ∧ UU.heap = h0) (fun _ _ _ _ _ => True) (fun _ UU oo UU' => ∃ vv LL, oo = .returned vv ∧ QGet2_3 Z a b k n x0 x1 x2 aC kC A h0 n0 vv UU'.heap LL ∧ FrameEnd UU oo UU' LL ({ frames := 2, cells := 0, slots := 0, locals := 30 } : Room).cells ({ frames := 2, cells := 0, slots := 0, locals := 30 } : Room).slots) := by
  refine MetFree.of_bodySF (plainFor_of_name pn_9) hisR ?_
  intro p e s m args below meth c s₁ Bd hml0 hP hK
  obtain ⟨rfl, hZ, hh⟩ := hP
  have hx := Bd.exec
  have hby := Bd.bytes
  have hml : c.maxLocals = 2 := hml0
  have hown : s.vm.findClass "com/example/message_ledger/messageledger/requests/ErrorCodeList" = some m.cls := findClass_of_methodNamed Bd.named
  have hnm := (name_of_methodNamed Bd.named Bd.method).1
  have X0 : Stand p l e ({ frames := 2, cells := 0, slots := 0, locals := 30 } : Room) s m #[(.ref a), (.int (2 : Int32))] below meth c s₁ [] 0 0 := Stand.of_body Bd
  have e0 : s₁.heap = h0 := by rw [← hh, Bd.state]; rfl
  have N0 := Fr.nil n0
  have KC0 : Keep h0 h0 [] := Keep.refl h0 []
  have pre0 : ∀ tgt, Steps p.tables e below (s₁.setTop (mkF m 0 #[.val (.ref a), .val (.int (2 : Int32))] [])) tgt → Steps p.tables e below (s₁.setTop (entryFrame m #[(.ref a), (.int (2 : Int32))] 2)) tgt := fun tgt kk => castTop (ef_rmGet2_3 m (a) ((2 : Int32))) kk
  have pre1 : ∀ tgt, Steps p.tables e below (s₁.setTop (mkF m 2 #[.val (.ref a), .val (.int (2 : Int32))] [(.ref a), (.int (2 : Int32))])) tgt → Steps p.tables e below (s₁.setTop (entryFrame m #[(.ref a), (.int (2 : Int32))] 2)) tgt := by
    intro tgt kk
    refine pre0 tgt ?_
    refine XS.iloadN X0.here hx rfl (hb hby d9_0) rfl ?_
    show Steps p.tables e below (s₁.setTop (mkF m 1 #[.val (.ref a), .val (.int (2 : Int32))] [(.int (2 : Int32))])) _
    refine XS.aloadN X0.here hx rfl (hb hby d9_1) rfl rfl ?_
    show Steps p.tables e below (s₁.setTop (mkF m 2 #[.val (.ref a), .val (.int (2 : Int32))] [(.ref a), (.int (2 : Int32))])) _
    exact kk
  obtain ⟨T2, X2, e2, st2⟩ := getF X0 hx hZ hown (host := "") (Or.inl (hw _ (List.mem_of_getElem? (i := 42) rfl))) Via.refl e0 F_s (g := (mkF m 2 #[.val (.ref a), .val (.int (2 : Int32))] [(.ref a), (.int (2 : Int32))])) rfl rfl (hb hby d9_2)
  have pre3 : ∀ tgt, Steps p.tables e below (T2.setTop (mkF m 5 #[.val (.ref a), .val (.int (2 : Int32))] [(.int (3 : Int32)), (.int (2 : Int32))])) tgt → Steps p.tables e below (s₁.setTop (entryFrame m #[(.ref a), (.int (2 : Int32))] 2)) tgt := by
    intro tgt kk
    refine pre1 tgt ?_
    refine st2 _ ?_
    show Steps p.tables e below (T2.setTop (mkF m 5 #[.val (.ref a), .val (.int (2 : Int32))] [(.int (3 : Int32)), (.int (2 : Int32))])) _
    exact kk
  obtain ⟨_, _, ⟨T4, L4, k4, n4⟩, -, X4, ⟨Lc4, hQ4, l4, y4, z4⟩, st4⟩ := Jvm.LawKit.callS X2 hx (y := (⟨"java/util/Objects", "checkIndex", "(II)I"⟩ : MethodName)) hown (mvT hZ (hw _ (List.mem_of_getElem? (i := 65) rfl))) (mvT hZ (hw _ (List.mem_of_getElem? (i := 66) rfl))) (mvT hZ (hw _ (List.mem_of_getElem? (i := 67) rfl))) (mvT hZ (hw _ (List.mem_of_getElem? (i := 68) rfl))) (by decide) (backOf (W := 0) (rmObj l Z a0 hw [] ((2 : Int32)) ((3 : Int32)) h0 n0 Z0 (by decide) (by decide)) hZ (hw _ (List.mem_of_getElem? (i := 68) rfl)) (hw _ (List.mem_of_getElem? (i := 67) rfl)) (by decide) (by decide)) (g := (mkF m 5 #[.val (.ref a), .val (.int (2 : Int32))] [(.int (3 : Int32)), (.int (2 : Int32))])) rfl (by rw [hml]; rfl) (argsL := [(.int (2 : Int32)), (.int (3 : Int32))]) (rest := []) (lenOf pd__II_I rfl) rfl (by show 2 * 0 + _ ≤ _; exact Nat.le_of_eq rfl) (hb hby d9_5) (fun _ _ => ⟨rfl, e2, (by decide : 0 + 0 ≤ _), (by decide : 0 + 0 ≤ _)⟩)
  dsimp only [Pt.U, Pt.locs, Pt.cells, Pt.slots] at X4 l4 y4 z4 st4 hQ4
  subst l4 y4 z4
  obtain ⟨rfl, N4q, hh4⟩ := hQ4
  have N4 := Fr.app N0 N4q
  have pre5 : ∀ tgt, Steps p.tables e below (T4.setTop (mkF m 9 #[.val (.ref a), .val (.int (2 : Int32))] [])) tgt → Steps p.tables e below (s₁.setTop (entryFrame m #[(.ref a), (.int (2 : Int32))] 2)) tgt := by
    intro tgt kk
    refine pre3 tgt ?_
    refine st4 _ ?_
    show Steps p.tables e below (T4.setTop (mkF m 8 #[.val (.ref a), .val (.int (2 : Int32))] [(.int (2 : Int32))])) _
    refine XS.pop X4.here hx rfl (hb hby d9_8) rfl rfl ?_
    show Steps p.tables e below (T4.setTop (mkF m 9 #[.val (.ref a), .val (.int (2 : Int32))] [])) _
    exact kk
  obtain ⟨T6, X6, e6, st6⟩ := getS X4 hx hZ hown (host := "") (hw _ (List.mem_of_getElem? (i := 73) rfl)) Via.refl hh4 S_CODES (g := (mkF m 9 #[.val (.ref a), .val (.int (2 : Int32))] [])) rfl (hb hby d9_9)
  have pre7 : ∀ tgt, Steps p.tables e below (T6.setTop (mkF m 13 #[.val (.ref a), .val (.int (2 : Int32))] [(.ref a), (.ref aC)])) tgt → Steps p.tables e below (s₁.setTop (entryFrame m #[(.ref a), (.int (2 : Int32))] 2)) tgt := by
    intro tgt kk
    refine pre5 tgt ?_
    refine st6 _ ?_
    show Steps p.tables e below (T6.setTop (mkF m 12 #[.val (.ref a), .val (.int (2 : Int32))] [(.ref aC)])) _
    refine XS.aloadN X6.here hx rfl (hb hby d9_12) rfl rfl ?_
    show Steps p.tables e below (T6.setTop (mkF m 13 #[.val (.ref a), .val (.int (2 : Int32))] [(.ref a), (.ref aC)])) _
    exact kk
  obtain ⟨T8, X8, e8, st8⟩ := getF X6 hx hZ hown (host := "") (Or.inl (hw _ (List.mem_of_getElem? (i := 35) rfl))) Via.refl e6 F_o (g := (mkF m 13 #[.val (.ref a), .val (.int (2 : Int32))] [(.ref a), (.ref aC)])) rfl rfl (hb hby d9_13)
  have pre9 : ∀ tgt, Steps p.tables e below (T8.setTop (mkF m 17 #[.val (.ref a), .val (.int (2 : Int32))] [(.int (2 : Int32)), (.ref b), (.ref aC)])) tgt → Steps p.tables e below (s₁.setTop (entryFrame m #[(.ref a), (.int (2 : Int32))] 2)) tgt := by
    intro tgt kk
    refine pre7 tgt ?_
    refine st8 _ ?_
    show Steps p.tables e below (T8.setTop (mkF m 16 #[.val (.ref a), .val (.int (2 : Int32))] [(.ref b), (.ref aC)])) _
    refine XS.iloadN X8.here hx rfl (hb hby d9_16) rfl ?_
    show Steps p.tables e below (T8.setTop (mkF m 17 #[.val (.ref a), .val (.int (2 : Int32))] [(.int (2 : Int32)), (.ref b), (.ref aC)])) _
    exact kk
  obtain ⟨cl10, Ar10, aq10, aS10, aN10, aH10, aG10⟩ := id V_b
  have hin11 : ¬ ((2 : Int32) < 0 ∨ cl10.slots.size ≤ ((2 : Int32)).toNatClampNeg) := inb_of aS10 ⟨by decide, own_lt2 hn⟩
  have hat11 : cl10.slots[((2 : Int32)).toNatClampNeg]? = some (.int x2) := Has.at aH10 hin11 rfl
  have pre12 : ∀ tgt, Steps p.tables e below (T8.setTop (mkF m 18 #[.val (.ref a), .val (.int (2 : Int32))] [(.int x2), (.ref aC)])) tgt → Steps p.tables e below (s₁.setTop (entryFrame m #[(.ref a), (.int (2 : Int32))] 2)) tgt := by
    intro tgt kk
    refine pre9 tgt ?_
    refine X8.baloadBytes hx (j := (2 : Int32)) (v := (.int x2)) (by rw [e8]; exact Ar10.1) (State.isArrayOf_alike hZ.alike Ar10.2.1) Ar10.2.2 hin11 hat11 (g := (mkF m 17 #[.val (.ref a), .val (.int (2 : Int32))] [(.int (2 : Int32)), (.ref b), (.ref aC)])) rfl rfl (hb hby d9_17) _ ?_
    show Steps p.tables e below (T8.setTop (mkF m 18 #[.val (.ref a), .val (.int (2 : Int32))] [(.int x2), (.ref aC)])) _
    exact kk
  obtain ⟨cl13, Ar13, aq13, aS13, aN13, aH13, aG13⟩ := id V_C
  have hin14 : ¬ (x2 < 0 ∨ cl13.slots.size ≤ (x2).toNatClampNeg) := inb_of aS13 hxr
  have hat14 : cl13.slots[(x2).toNatClampNeg]? = some (.ref (A x2.toNatClampNeg)) := Has.at aH13 hin14 (own_code hxr)
  obtain ⟨fs, hr, hrun, hended, hW, hsame⟩ := X8.leave (v := some (.ref (A x2.toNatClampNeg))) (fun h => by rw [Bd.returns] at h; cases h)
  refine ⟨_, _, pre12 _ ?_, hrun, hended, _, _, rfl, ?_, ⟨_, rfl⟩, hW, hsame.mono (by decide) (by decide)⟩
  · skip
    refine X8.aaload hx (j := x2) (v := (.ref (A x2.toNatClampNeg))) (by rw [e8]; exact Ar13.1) (State.isArrayOf_alike hZ.alike Ar13.2.1) rfl Ar13.2.2 hin14 hat14 (g := (mkF m 18 #[.val (.ref a), .val (.int (2 : Int32))] [(.int x2), (.ref aC)])) rfl rfl (hb hby d9_18) _ ?_
    show Steps p.tables e below (T8.setTop (mkF m 19 #[.val (.ref a), .val (.int (2 : Int32))] [(.ref (A x2.toNatClampNeg))])) _
    exact retOut X8 hx Bd.returns rfl (Or.inr (Or.inr (Or.inr (Or.inr ⟨rfl, rfl, rfl⟩)))) (hb hby d9_19) hr
  · show QGet2_3 Z a b k n x0 x1 x2 aC kC A h0 n0 _ T8.heap _
    rw [e8]
    exact ⟨rfl, N4, rfl⟩
theorem d8_0 : decode prog_61_method_4_code 0 = .ok (.aload_n 0, 1) := by decide +kernel
theorem d8_1 : decode prog_61_method_4_code 1 = .ok (.getfield 13, 3) := by decide +kernel
theorem d8_4 : decode prog_61_method_4_code 4 = .ok (.ireturn, 1) := by decide +kernel
theorem pn_8 : plainName "com/example/message_ledger/messageledger/requests/ErrorCodeList" = true := by first | (simp [plainName, overriddenIn]; done) | decide +kernel
theorem ef_rmSize (m : MethodId) (x0 : Addr) : entryFrame m #[(.ref x0)] 1 = mkF m 0 #[.val (.ref x0)] [] := by first | (simp [entryFrame, mkF, argsToLocals, Value.category]; done) | rfl
def QSize (Z : State) (a : Addr) (n : Int32) (h0 : Heap) (n0 : Nat) (v : Option Value) (h : Heap) (L : List Loc) : Prop := v = some (.int n) ∧ Fr n0 L ∧ h = h0
set_option maxRecDepth 65536 in
set_option maxHeartbeats 40000000 in
theorem rmSize (l : Launch) (Z : State) (a0 : Array Value) (hw : ∀ d ∈ tables_1, d.before a0 Z = true) (ws : List Jvm.Cond) (a : Addr) (n : Int32) (h0 : Heap) (n0 : Nat) (Z0 : n0 ≤ h0.size) (F_s : Fld Z h0 a "com/example/message_ledger/messageledger/requests/ErrorCodeList" "size" "I" (.int n)) :
    MetFree l (⟨"com/example/message_ledger/messageledger/requests/ErrorCodeList", "size", "()I"⟩ : MethodName) (head1 (Jvm.Cond.code (⟨"com/example/message_ledger/messageledger/requests/ErrorCodeList", "size", "()I"⟩ : MethodName) prog_61_method_4_code 1 (some .int) :: ws) ({ frames := 0, cells := 0, slots := 0, locals := 0 } : Room)) (fun ar UU => ar = #[(.ref a)] ∧ Z.Warmed39 UU.vm ∧ UU.heap = h0) (fun _ _ _ _ _ => True) (fun _ UU oo UU' => ∃ vv LL, oo = .returned vv ∧ QSize Z a n h0 n0 vv UU'.heap LL ∧ FrameEnd UU oo UU' LL ({ frames := 0, cells := 0, slots := 0, locals := 0 } : Room).cells ({ frames := 0, cells := 0, slots := 0, locals := 0 } : Room).slots) := by
  refine MetFree.of_bodySF (plainFor_of_name pn_8) hisR ?_
  intro p e s m args below meth c s₁ Bd hml0 hP hK
  obtain ⟨rfl, hZ, hh⟩ := hP
  have hx := Bd.exec
  have hby := Bd.bytes
  have hml : c.maxLocals = 1 := hml0
  have hown : s.vm.findClass "com/example/message_ledger/messageledger/requests/ErrorCodeList" = some m.cls := findClass_of_methodNamed Bd.named
  have hnm := (name_of_methodNamed Bd.named Bd.method).1
  have X0 : Stand p l e ({ frames := 0, cells := 0, slots := 0, locals := 0 } : Room) s m #[(.ref a)] below meth c s₁ [] 0 0 := Stand.of_body Bd
  have e0 : s₁.heap = h0 := by rw [← hh, Bd.state]; rfl
  have N0 := Fr.nil n0
  have KC0 : Keep h0 h0 [] := Keep.refl h0 []
  have pre0 : ∀ tgt, Steps p.tables e below (s₁.setTop (mkF m 0 #[.val (.ref a)] [])) tgt → Steps p.tables e below (s₁.setTop (entryFrame m #[(.ref a)] 1)) tgt := fun tgt kk => castTop (ef_rmSize m (a)) kk
  have pre1 : ∀ tgt, Steps p.tables e below (s₁.setTop (mkF m 1 #[.val (.ref a)] [(.ref a)])) tgt → Steps p.tables e below (s₁.setTop (entryFrame m #[(.ref a)] 1)) tgt := by
    intro tgt kk
    refine pre0 tgt ?_
    refine XS.aloadN X0.here hx rfl (hb hby d8_0) rfl rfl ?_
    show Steps p.tables e below (s₁.setTop (mkF m 1 #[.val (.ref a)] [(.ref a)])) _
    exact kk
  obtain ⟨T2, X2, e2, st2⟩ := getF X0 hx hZ hown (host := "") (Or.inl (hw _ (List.mem_of_getElem? (i := 42) rfl))) Via.refl e0 F_s (g := (mkF m 1 #[.val (.ref a)] [(.ref a)])) rfl rfl (hb hby d8_1)
  obtain ⟨fs, hr, hrun, hended, hW, hsame⟩ := X2.leave (v := some (.int n)) (fun h => by rw [Bd.returns] at h; cases h)
  refine ⟨_, _, pre1 _ ?_, hrun, hended, _, _, rfl, ?_, ⟨_, rfl⟩, hW, hsame.mono (by decide) (by decide)⟩
  · skip
    refine st2 _ ?_
    show Steps p.tables e below (T2.setTop (mkF m 4 #[.val (.ref a)] [(.int n)])) _
    exact retI X2 hx Bd.returns (hb hby d8_4) hr
  · show QSize Z a n h0 n0 _ T2.heap _
    rw [e2]
    exact ⟨rfl, N0, rfl⟩
theorem pn_0 : plainName "com/example/message_ledger/messageledger/requests/ErrorCodeListAddPinLaw" = true := by first | (simp [plainName, overriddenIn]; done) | decide +kernel
theorem pd__I_Lcom_example_message_ledger_messageledger_wire_ErrorCode_ : parseMethodDescriptor "(I)Lcom/example/message_ledger/messageledger/wire/ErrorCode;" = some ⟨[.int], some (.object "com/example/message_ledger/messageledger/wire/ErrorCode")⟩ := by decide +kernel
theorem pd__I_V : parseMethodDescriptor "(I)V" = some ⟨[.int], none⟩ := by decide +kernel
theorem pd__Lcom_example_message_ledger_messageledger_wire_ErrorCode__Z : parseMethodDescriptor "(Lcom/example/message_ledger/messageledger/wire/ErrorCode;)Z" = some ⟨[(.object "com/example/message_ledger/messageledger/wire/ErrorCode")], some .boolean⟩ := by decide +kernel
theorem ef_rm0 (m : MethodId) (x0 : Int32) (x1 : Int32) (x2 : Int32) (x3 : Int32) : entryFrame m #[(.int x0), (.int x1), (.int x2), (.int x3)] maxLocals = mkF m 0 #[.val (.int x0), .val (.int x1), .val (.int x2), .val (.int x3), .unset, .unset, .unset, .unset, .unset, .unset, .unset, .unset, .unset, .unset] [] := by first | (simp [entryFrame, mkF, argsToLocals, Value.category, maxLocals]; done) | rfl
def Q0 (Z : State) (p1 : Int32) (p2 : Int32) (p3 : Int32) (p4 : Int32) (aC : Addr) (kC : ClassId) (A : Nat → Addr) (h0 : Heap) (n0 : Nat) (v : Option Value) (h : Heap) (L : List Loc) : Prop := v = some (.int (1 : Int32)) ∧ Fr n0 L
set_option maxRecDepth 65536 in
set_option maxHeartbeats 40000000 in
theorem rm0 (l : Launch) (Z : State) (a0 : Array Value) (hw : ∀ d ∈ tables_1, d.before a0 Z = true) (ws : List Jvm.Cond) (p1 : Int32) (p2 : Int32) (p3 : Int32) (p4 : Int32) (aC : Addr) (kC : ClassId) (A : Nat → Addr) (h0 : Heap) (n0 : Nat) (Z0 : n0 ≤ h0.size) (S_UNKNOWN : Sta Z h0 "com/example/message_ledger/messageledger/wire/ErrorCode" "UNKNOWN" "Lcom/example/message_ledger/messageledger/wire/ErrorCode;" (.ref (A 0))) (S_NONE : Sta Z h0 "com/example/message_ledger/messageledger/wire/ErrorCode" "NONE" "Lcom/example/message_ledger/messageledger/wire/ErrorCode;" (.ref (A 1))) (S_OFFSET_OUT_OF_RANGE : Sta Z h0 "com/example/message_ledger/messageledger/wire/ErrorCode" "OFFSET_OUT_OF_RANGE" "Lcom/example/message_ledger/messageledger/wire/ErrorCode;" (.ref (A 2))) (S_CORRUPT_MESSAGE : Sta Z h0 "com/example/message_ledger/messageledger/wire/ErrorCode" "CORRUPT_MESSAGE" "Lcom/example/message_ledger/messageledger/wire/ErrorCode;" (.ref (A 3))) (S_UNKNOWN_TOPIC_OR_PARTITION : Sta Z h0 "com/example/message_ledger/messageledger/wire/ErrorCode" "UNKNOWN_TOPIC_OR_PARTITION" "Lcom/example/message_ledger/messageledger/wire/ErrorCode;" (.ref (A 4))) (S_INVALID_FETCH_SIZE : Sta Z h0 "com/example/message_ledger/messageledger/wire/ErrorCode" "INVALID_FETCH_SIZE" "Lcom/example/message_ledger/messageledger/wire/ErrorCode;" (.ref (A 5))) (S_LEADER_NOT_AVAILABLE : Sta Z h0 "com/example/message_ledger/messageledger/wire/ErrorCode" "LEADER_NOT_AVAILABLE" "Lcom/example/message_ledger/messageledger/wire/ErrorCode;" (.ref (A 6))) (S_NOT_LEADER_FOR_PARTITION : Sta Z h0 "com/example/message_ledger/messageledger/wire/ErrorCode" "NOT_LEADER_FOR_PARTITION" "Lcom/example/message_ledger/messageledger/wire/ErrorCode;" (.ref (A 7))) (S_MESSAGE_TOO_LARGE : Sta Z h0 "com/example/message_ledger/messageledger/wire/ErrorCode" "MESSAGE_TOO_LARGE" "Lcom/example/message_ledger/messageledger/wire/ErrorCode;" (.ref (A 8))) (S_OFFSET_METADATA_TOO_LARGE : Sta Z h0 "com/example/message_ledger/messageledger/wire/ErrorCode" "OFFSET_METADATA_TOO_LARGE" "Lcom/example/message_ledger/messageledger/wire/ErrorCode;" (.ref (A 9))) (S_INVALID_TOPIC : Sta Z h0 "com/example/message_ledger/messageledger/wire/ErrorCode" "INVALID_TOPIC" "Lcom/example/message_ledger/messageledger/wire/ErrorCode;" (.ref (A 10))) (S_INVALID_REQUIRED_ACKS : Sta Z h0 "com/example/message_ledger/messageledger/wire/ErrorCode" "INVALID_REQUIRED_ACKS" "Lcom/example/message_ledger/messageledger/wire/ErrorCode;" (.ref (A 11))) (S_ILLEGAL_GENERATION : Sta Z h0 "com/example/message_ledger/messageledger/wire/ErrorCode" "ILLEGAL_GENERATION" "Lcom/example/message_ledger/messageledger/wire/ErrorCode;" (.ref (A 12))) (S_INCONSISTENT_GROUP_PROTOCOL : Sta Z h0 "com/example/message_ledger/messageledger/wire/ErrorCode" "INCONSISTENT_GROUP_PROTOCOL" "Lcom/example/message_ledger/messageledger/wire/ErrorCode;" (.ref (A 13))) (S_INVALID_GROUP_ID : Sta Z h0 "com/example/message_ledger/messageledger/wire/ErrorCode" "INVALID_GROUP_ID" "Lcom/example/message_ledger/messageledger/wire/ErrorCode;" (.ref (A 14))) (S_UNKNOWN_MEMBER_ID : Sta Z h0 "com/example/message_ledger/messageledger/wire/ErrorCode" "UNKNOWN_MEMBER_ID" "Lcom/example/message_ledger/messageledger/wire/ErrorCode;" (.ref (A 15))) (S_INVALID_SESSION_TIMEOUT : Sta Z h0 "com/example/message_ledger/messageledger/wire/ErrorCode" "INVALID_SESSION_TIMEOUT" "Lcom/example/message_ledger/messageledger/wire/ErrorCode;" (.ref (A 16))) (S_REBALANCE_IN_PROGRESS : Sta Z h0 "com/example/message_ledger/messageledger/wire/ErrorCode" "REBALANCE_IN_PROGRESS" "Lcom/example/message_ledger/messageledger/wire/ErrorCode;" (.ref (A 17))) (S_UNSUPPORTED_VERSION : Sta Z h0 "com/example/message_ledger/messageledger/wire/ErrorCode" "UNSUPPORTED_VERSION" "Lcom/example/message_ledger/messageledger/wire/ErrorCode;" (.ref (A 18))) (S_CODES : Sta Z h0 "com/example/message_ledger/messageledger/requests/ErrorCodeList" "CODES" "[Lcom/example/message_ledger/messageledger/wire/ErrorCode;" (.ref aC)) (V_C : Arv Z h0 aC kC (.object "com/example/message_ledger/messageledger/wire/ErrorCode") (19 : Int32) (own_codes A) .null) (hE : own_all fun i j => Exa Z h0 (A i) "com/example/message_ledger/messageledger/wire/ErrorCode") (hO : own_all fun i j => Fld Z h0 (A i) "java/lang/Enum" "ordinal" "I" (.int j)) :
    MetFree l x (head1 (Jvm.Cond.code x code maxLocals ret :: ws) room_1) (fun ar UU => ar = #[(.int p1), (.int p2), (.int p3), (.int p4)] ∧ Z.Warmed39 UU.vm ∧ UU.heap = h0) (fun _ _ _ _ _ => True) (fun _ UU oo UU' => ∃ vv LL, oo = .returned vv ∧ Q0 Z p1 p2 p3 p4 aC kC A h0 n0 vv UU'.heap LL ∧ FrameEnd UU oo UU' LL room_1.cells room_1.slots) := by
  refine MetFree.of_bodySF (plainFor_of_name pn_0) hisR ?_
  intro p e s m args below meth c s₁ Bd hml0 hP hK
  obtain ⟨rfl, hZ, hh⟩ := hP
  have hx := Bd.exec
  have hby := Bd.bytes
  have hml : c.maxLocals = 14 := hml0
  have hown : s.vm.findClass "com/example/message_ledger/messageledger/requests/ErrorCodeListAddPinLaw" = some m.cls := findClass_of_methodNamed Bd.named
  have hnm := (name_of_methodNamed Bd.named Bd.method).1
  have X0 : Stand p l e room_1 s m #[(.int p1), (.int p2), (.int p3), (.int p4)] below meth c s₁ [] 0 0 := Stand.of_body Bd
  have e0 : s₁.heap = h0 := by rw [← hh, Bd.state]; rfl
  have N0 := Fr.nil n0
  have KC0 : Keep h0 h0 [] := Keep.refl h0 []
  have pre0 : ∀ tgt, Steps p.tables e below (s₁.setTop (mkF m 0 #[.val (.int p1), .val (.int p2), .val (.int p3), .val (.int p4), .unset, .unset, .unset, .unset, .unset, .unset, .unset, .unset, .unset, .unset] [])) tgt → Steps p.tables e below (s₁.setTop (entryFrame m #[(.int p1), (.int p2), (.int p3), (.int p4)] maxLocals)) tgt := fun tgt kk => castTop (ef_rm0 m (p1) (p2) (p3) (p4)) kk
  have pre1 : ∀ tgt, Steps p.tables e below (s₁.setTop (mkF m 1 #[.val (.int p1), .val (.int p2), .val (.int p3), .val (.int p4), .unset, .unset, .unset, .unset, .unset, .unset, .unset, .unset, .unset, .unset] [(.int p1)])) tgt → Steps p.tables e below (s₁.setTop (entryFrame m #[(.int p1), (.int p2), (.int p3), (.int p4)] maxLocals)) tgt := by
    intro tgt kk
    refine pre0 tgt ?_
    refine XS.iloadN X0.here hx rfl (hb hby at_0) rfl ?_
    show Steps p.tables e below (s₁.setTop (mkF m 1 #[.val (.int p1), .val (.int p2), .val (.int p3), .val (.int p4), .unset, .unset, .unset, .unset, .unset, .unset, .unset, .unset, .unset, .unset] [(.int p1)])) _
    exact kk
  obtain ⟨_, _, ⟨T2, L2, k2, n2⟩, -, X2, ⟨Lc2, hQ2, l2, y2, z2⟩, st2⟩ := Jvm.LawKit.callS X0 hx (y := (⟨"com/example/message_ledger/messageledger/requests/ErrorCodeListAddPinLaw", "pick", "(I)Lcom/example/message_ledger/messageledger/wire/ErrorCode;"⟩ : MethodName)) hown (mvT hZ (hw _ (List.mem_of_getElem? (i := 0) rfl))) (mvT hZ (hw _ (List.mem_of_getElem? (i := 1) rfl))) (mvT hZ (hw _ (List.mem_of_getElem? (i := 2) rfl))) (mvT hZ (hw _ (List.mem_of_getElem? (i := 3) rfl))) (by decide) (backOf (W := 0) (rmPick l Z a0 hw [] p1 A h0 n0 Z0 S_UNKNOWN S_NONE S_OFFSET_OUT_OF_RANGE S_CORRUPT_MESSAGE S_UNKNOWN_TOPIC_OR_PARTITION S_INVALID_FETCH_SIZE S_LEADER_NOT_AVAILABLE S_NOT_LEADER_FOR_PARTITION S_MESSAGE_TOO_LARGE S_OFFSET_METADATA_TOO_LARGE S_INVALID_TOPIC S_INVALID_REQUIRED_ACKS S_ILLEGAL_GENERATION S_INCONSISTENT_GROUP_PROTOCOL S_INVALID_GROUP_ID S_UNKNOWN_MEMBER_ID S_INVALID_SESSION_TIMEOUT S_REBALANCE_IN_PROGRESS S_UNSUPPORTED_VERSION) hZ (hw _ (List.mem_of_getElem? (i := 3) rfl)) (hw _ (List.mem_of_getElem? (i := 2) rfl)) (by decide) (by decide)) (g := (mkF m 1 #[.val (.int p1), .val (.int p2), .val (.int p3), .val (.int p4), .unset, .unset, .unset, .unset, .unset, .unset, .unset, .unset, .unset, .unset] [(.int p1)])) rfl (by rw [hml]; rfl) (argsL := [(.int p1)]) (rest := []) (lenOf pd__I_Lcom_example_message_ledger_messageledger_wire_ErrorCode_ rfl) rfl (by show 2 * 0 + _ ≤ _; exact Nat.le_of_eq rfl) (hb hby at_1) (fun _ _ => ⟨rfl, e0, (by decide : 0 + 0 ≤ _), (by decide : 0 + 0 ≤ _)⟩)
  dsimp only [Pt.U, Pt.locs, Pt.cells, Pt.slots] at X2 l2 y2 z2 st2 hQ2
  subst l2 y2 z2
  obtain ⟨rfl, N2q, hh2⟩ := hQ2
  have N2 := Fr.app N0 N2q
  have E_p1 : Exa Z h0 (A (own_k p1).toNatClampNeg) "com/example/message_ledger/messageledger/wire/ErrorCode" := hE _ (own_kr p1)
  have F_p1 : Fld Z h0 (A (own_k p1).toNatClampNeg) "java/lang/Enum" "ordinal" "I" (.int (own_k p1)) := hO _ (own_kr p1)
  have pre3 : ∀ tgt, Steps p.tables e below (T2.setTop (mkF m 7 #[.val (.int p1), .val (.int p2), .val (.int p3), .val (.int p4), .val (.ref (A (own_k p1).toNatClampNeg)), .unset, .unset, .unset, .unset, .unset, .unset, .unset, .unset, .unset] [(.int p2)])) tgt → Steps p.tables e below (s₁.setTop (entryFrame m #[(.int p1), (.int p2), (.int p3), (.int p4)] maxLocals)) tgt := by
    intro tgt kk
    refine pre1 tgt ?_
    refine st2 _ ?_
    show Steps p.tables e below (T2.setTop (mkF m 4 #[.val (.int p1), .val (.int p2), .val (.int p3), .val (.int p4), .unset, .unset, .unset, .unset, .unset, .unset, .unset, .unset, .unset, .unset] [(.ref (A (own_k p1).toNatClampNeg))])) _
    refine XS.astore X2.here hx rfl (hb hby at_4) rfl rfl (l' := #[.val (.int p1), .val (.int p2), .val (.int p3), .val (.int p4), .val (.ref (A (own_k p1).toNatClampNeg)), .unset, .unset, .unset, .unset, .unset, .unset, .unset, .unset, .unset]) rfl ?_
    show Steps p.tables e below (T2.setTop (mkF m 6 #[.val (.int p1), .val (.int p2), .val (.int p3), .val (.int p4), .val (.ref (A (own_k p1).toNatClampNeg)), .unset, .unset, .unset, .unset, .unset, .unset, .unset, .unset, .unset] [])) _
    refine XS.iloadN X2.here hx rfl (hb hby at_6) rfl ?_
    show Steps p.tables e below (T2.setTop (mkF m 7 #[.val (.int p1), .val (.int p2), .val (.int p3), .val (.int p4), .val (.ref (A (own_k p1).toNatClampNeg)), .unset, .unset, .unset, .unset, .unset, .unset, .unset, .unset, .unset] [(.int p2)])) _
    exact kk
  obtain ⟨_, _, ⟨T4, L4, k4, n4⟩, -, X4, ⟨Lc4, hQ4, l4, y4, z4⟩, st4⟩ := Jvm.LawKit.callS X2 hx (y := (⟨"com/example/message_ledger/messageledger/requests/ErrorCodeListAddPinLaw", "pick", "(I)Lcom/example/message_ledger/messageledger/wire/ErrorCode;"⟩ : MethodName)) hown (mvT hZ (hw _ (List.mem_of_getElem? (i := 0) rfl))) (mvT hZ (hw _ (List.mem_of_getElem? (i := 1) rfl))) (mvT hZ (hw _ (List.mem_of_getElem? (i := 2) rfl))) (mvT hZ (hw _ (List.mem_of_getElem? (i := 3) rfl))) (by decide) (backOf (W := 0) (rmPick l Z a0 hw [] p2 A h0 n0 Z0 S_UNKNOWN S_NONE S_OFFSET_OUT_OF_RANGE S_CORRUPT_MESSAGE S_UNKNOWN_TOPIC_OR_PARTITION S_INVALID_FETCH_SIZE S_LEADER_NOT_AVAILABLE S_NOT_LEADER_FOR_PARTITION S_MESSAGE_TOO_LARGE S_OFFSET_METADATA_TOO_LARGE S_INVALID_TOPIC S_INVALID_REQUIRED_ACKS S_ILLEGAL_GENERATION S_INCONSISTENT_GROUP_PROTOCOL S_INVALID_GROUP_ID S_UNKNOWN_MEMBER_ID S_INVALID_SESSION_TIMEOUT S_REBALANCE_IN_PROGRESS S_UNSUPPORTED_VERSION) hZ (hw _ (List.mem_of_getElem? (i := 3) rfl)) (hw _ (List.mem_of_getElem? (i := 2) rfl)) (by decide) (by decide)) (g := (mkF m 7 #[.val (.int p1), .val (.int p2), .val (.int p3), .val (.int p4), .val (.ref (A (own_k p1).toNatClampNeg)), .unset, .unset, .unset, .unset, .unset, .unset, .unset, .unset, .unset] [(.int p2)])) rfl (by rw [hml]; rfl) (argsL := [(.int p2)]) (rest := []) (lenOf pd__I_Lcom_example_message_ledger_messageledger_wire_ErrorCode_ rfl) rfl (by show 2 * 0 + _ ≤ _; exact Nat.le_of_eq rfl) (hb hby at_7) (fun _ _ => ⟨rfl, hh2, (by decide : 0 + 0 ≤ _), (by decide : 0 + 0 ≤ _)⟩)
  dsimp only [Pt.U, Pt.locs, Pt.cells, Pt.slots] at X4 l4 y4 z4 st4 hQ4
  subst l4 y4 z4
  obtain ⟨rfl, N4q, hh4⟩ := hQ4
  have N4 := Fr.app N2 N4q
  have E_p2 : Exa Z h0 (A (own_k p2).toNatClampNeg) "com/example/message_ledger/messageledger/wire/ErrorCode" := hE _ (own_kr p2)
  have F_p2 : Fld Z h0 (A (own_k p2).toNatClampNeg) "java/lang/Enum" "ordinal" "I" (.int (own_k p2)) := hO _ (own_kr p2)
  have pre5 : ∀ tgt, Steps p.tables e below (T4.setTop (mkF m 13 #[.val (.int p1), .val (.int p2), .val (.int p3), .val (.int p4), .val (.ref (A (own_k p1).toNatClampNeg)), .val (.ref (A (own_k p2).toNatClampNeg)), .unset, .unset, .unset, .unset, .unset, .unset, .unset, .unset] [(.int p3)])) tgt → Steps p.tables e below (s₁.setTop (entryFrame m #[(.int p1), (.int p2), (.int p3), (.int p4)] maxLocals)) tgt := by
    intro tgt kk
    refine pre3 tgt ?_
    refine st4 _ ?_
    show Steps p.tables e below (T4.setTop (mkF m 10 #[.val (.int p1), .val (.int p2), .val (.int p3), .val (.int p4), .val (.ref (A (own_k p1).toNatClampNeg)), .unset, .unset, .unset, .unset, .unset, .unset, .unset, .unset, .unset] [(.ref (A (own_k p2).toNatClampNeg))])) _
    refine XS.astore X4.here hx rfl (hb hby at_10) rfl rfl (l' := #[.val (.int p1), .val (.int p2), .val (.int p3), .val (.int p4), .val (.ref (A (own_k p1).toNatClampNeg)), .val (.ref (A (own_k p2).toNatClampNeg)), .unset, .unset, .unset, .unset, .unset, .unset, .unset, .unset]) rfl ?_
    show Steps p.tables e below (T4.setTop (mkF m 12 #[.val (.int p1), .val (.int p2), .val (.int p3), .val (.int p4), .val (.ref (A (own_k p1).toNatClampNeg)), .val (.ref (A (own_k p2).toNatClampNeg)), .unset, .unset, .unset, .unset, .unset, .unset, .unset, .unset] [])) _
    refine XS.iloadN X4.here hx rfl (hb hby at_12) rfl ?_
    show Steps p.tables e below (T4.setTop (mkF m 13 #[.val (.int p1), .val (.int p2), .val (.int p3), .val (.int p4), .val (.ref (A (own_k p1).toNatClampNeg)), .val (.ref (A (own_k p2).toNatClampNeg)), .unset, .unset, .unset, .unset, .unset, .unset, .unset, .unset] [(.int p3)])) _
    exact kk
  obtain ⟨_, _, ⟨T6, L6, k6, n6⟩, -, X6, ⟨Lc6, hQ6, l6, y6, z6⟩, st6⟩ := Jvm.LawKit.callS X4 hx (y := (⟨"com/example/message_ledger/messageledger/requests/ErrorCodeListAddPinLaw", "pick", "(I)Lcom/example/message_ledger/messageledger/wire/ErrorCode;"⟩ : MethodName)) hown (mvT hZ (hw _ (List.mem_of_getElem? (i := 0) rfl))) (mvT hZ (hw _ (List.mem_of_getElem? (i := 1) rfl))) (mvT hZ (hw _ (List.mem_of_getElem? (i := 2) rfl))) (mvT hZ (hw _ (List.mem_of_getElem? (i := 3) rfl))) (by decide) (backOf (W := 0) (rmPick l Z a0 hw [] p3 A h0 n0 Z0 S_UNKNOWN S_NONE S_OFFSET_OUT_OF_RANGE S_CORRUPT_MESSAGE S_UNKNOWN_TOPIC_OR_PARTITION S_INVALID_FETCH_SIZE S_LEADER_NOT_AVAILABLE S_NOT_LEADER_FOR_PARTITION S_MESSAGE_TOO_LARGE S_OFFSET_METADATA_TOO_LARGE S_INVALID_TOPIC S_INVALID_REQUIRED_ACKS S_ILLEGAL_GENERATION S_INCONSISTENT_GROUP_PROTOCOL S_INVALID_GROUP_ID S_UNKNOWN_MEMBER_ID S_INVALID_SESSION_TIMEOUT S_REBALANCE_IN_PROGRESS S_UNSUPPORTED_VERSION) hZ (hw _ (List.mem_of_getElem? (i := 3) rfl)) (hw _ (List.mem_of_getElem? (i := 2) rfl)) (by decide) (by decide)) (g := (mkF m 13 #[.val (.int p1), .val (.int p2), .val (.int p3), .val (.int p4), .val (.ref (A (own_k p1).toNatClampNeg)), .val (.ref (A (own_k p2).toNatClampNeg)), .unset, .unset, .unset, .unset, .unset, .unset, .unset, .unset] [(.int p3)])) rfl (by rw [hml]; rfl) (argsL := [(.int p3)]) (rest := []) (lenOf pd__I_Lcom_example_message_ledger_messageledger_wire_ErrorCode_ rfl) rfl (by show 2 * 0 + _ ≤ _; exact Nat.le_of_eq rfl) (hb hby at_13) (fun _ _ => ⟨rfl, hh4, (by decide : 0 + 0 ≤ _), (by decide : 0 + 0 ≤ _)⟩)
  dsimp only [Pt.U, Pt.locs, Pt.cells, Pt.slots] at X6 l6 y6 z6 st6 hQ6
  subst l6 y6 z6
  obtain ⟨rfl, N6q, hh6⟩ := hQ6
  have N6 := Fr.app N4 N6q
  have E_p3 : Exa Z h0 (A (own_k p3).toNatClampNeg) "com/example/message_ledger/messageledger/wire/ErrorCode" := hE _ (own_kr p3)
  have F_p3 : Fld Z h0 (A (own_k p3).toNatClampNeg) "java/lang/Enum" "ordinal" "I" (.int (own_k p3)) := hO _ (own_kr p3)
  have pre7 : ∀ tgt, Steps p.tables e below (T6.setTop (mkF m 18 #[.val (.int p1), .val (.int p2), .val (.int p3), .val (.int p4), .val (.ref (A (own_k p1).toNatClampNeg)), .val (.ref (A (own_k p2).toNatClampNeg)), .val (.ref (A (own_k p3).toNatClampNeg)), .unset, .unset, .unset, .unset, .unset, .unset, .unset] [])) tgt → Steps p.tables e below (s₁.setTop (entryFrame m #[(.int p1), (.int p2), (.int p3), (.int p4)] maxLocals)) tgt := by
    intro tgt kk
    refine pre5 tgt ?_
    refine st6 _ ?_
    show Steps p.tables e below (T6.setTop (mkF m 16 #[.val (.int p1), .val (.int p2), .val (.int p3), .val (.int p4), .val (.ref (A (own_k p1).toNatClampNeg)), .val (.ref (A (own_k p2).toNatClampNeg)), .unset, .unset, .unset, .unset, .unset, .unset, .unset, .unset] [(.ref (A (own_k p3).toNatClampNeg))])) _
    refine XS.astore X6.here hx rfl (hb hby at_16) rfl rfl (l' := #[.val (.int p1), .val (.int p2), .val (.int p3), .val (.int p4), .val (.ref (A (own_k p1).toNatClampNeg)), .val (.ref (A (own_k p2).toNatClampNeg)), .val (.ref (A (own_k p3).toNatClampNeg)), .unset, .unset, .unset, .unset, .unset, .unset, .unset]) rfl ?_
    show Steps p.tables e below (T6.setTop (mkF m 18 #[.val (.int p1), .val (.int p2), .val (.int p3), .val (.int p4), .val (.ref (A (own_k p1).toNatClampNeg)), .val (.ref (A (own_k p2).toNatClampNeg)), .val (.ref (A (own_k p3).toNatClampNeg)), .unset, .unset, .unset, .unset, .unset, .unset, .unset] [])) _
    exact kk
  obtain ⟨T8, h8, X8, e8, E8, A8, D8, -, st8⟩ := newO X6 hx hZ hown (hw _ (List.mem_of_getElem? (i := 12) rfl)) (hw _ (List.mem_of_getElem? (i := 13) rfl)) (hw _ (List.mem_of_getElem? (i := 14) rfl)) hh6 (g := (mkF m 18 #[.val (.int p1), .val (.int p2), .val (.int p3), .val (.int p4), .val (.ref (A (own_k p1).toNatClampNeg)), .val (.ref (A (own_k p2).toNatClampNeg)), .val (.ref (A (own_k p3).toNatClampNeg)), .unset, .unset, .unset, .unset, .unset, .unset, .unset] [])) rfl (hb hby at_18) (by decide) (by decide)
  obtain ⟨b8, g8⟩ : ∃ z, z = h0.size := ⟨_, rfl⟩
  rw [← g8] at A8 D8 st8
  have ne9 : aC ≠ b8 := Nat.ne_of_lt (Nat.lt_of_lt_of_le V_C.lt (Nat.le_of_eq g8.symm))
  have ne10 : (A (own_k p1).toNatClampNeg) ≠ b8 := Nat.ne_of_lt (Nat.lt_of_lt_of_le E_p1.lt (Nat.le_of_eq g8.symm))
  have ne11 : (A (own_k p2).toNatClampNeg) ≠ b8 := Nat.ne_of_lt (Nat.lt_of_lt_of_le E_p2.lt (Nat.le_of_eq g8.symm))
  have ne12 : (A (own_k p3).toNatClampNeg) ≠ b8 := Nat.ne_of_lt (Nat.lt_of_lt_of_le E_p3.lt (Nat.le_of_eq g8.symm))
  have gn13 : n0 ≤ b8 := Nat.le_trans Z0 (Nat.le_of_eq g8.symm)
  have sz13 : h0.size ≤ b8 := Nat.le_trans KC0.1 (Nat.le_of_eq g8.symm)
  have S_CODES : Sta Z h8 "com/example/message_ledger/messageledger/requests/ErrorCodeList" "CODES" "[Lcom/example/message_ledger/messageledger/wire/ErrorCode;" (.ref aC) := S_CODES.ext E8
  have V_C : Arv Z h8 aC kC (.object "com/example/message_ledger/messageledger/wire/ErrorCode") (19 : Int32) (own_codes A) .null := V_C.ext E8
  have E_p1 : Exa Z h8 (A (own_k p1).toNatClampNeg) "com/example/message_ledger/messageledger/wire/ErrorCode" := E_p1.ext E8
  have F_p1 : Fld Z h8 (A (own_k p1).toNatClampNeg) "java/lang/Enum" "ordinal" "I" (.int (own_k p1)) := F_p1.ext E8
  have E_p2 : Exa Z h8 (A (own_k p2).toNatClampNeg) "com/example/message_ledger/messageledger/wire/ErrorCode" := E_p2.ext E8
  have F_p2 : Fld Z h8 (A (own_k p2).toNatClampNeg) "java/lang/Enum" "ordinal" "I" (.int (own_k p2)) := F_p2.ext E8
  have E_p3 : Exa Z h8 (A (own_k p3).toNatClampNeg) "com/example/message_ledger/messageledger/wire/ErrorCode" := E_p3.ext E8
  have F_p3 : Fld Z h8 (A (own_k p3).toNatClampNeg) "java/lang/Enum" "ordinal" "I" (.int (own_k p3)) := F_p3.ext E8
  have Zs14 : n0 ≤ h8.size := Nat.le_trans Z0 E8.1
  have KC14 : Keep h0 h8 [] := KC0.ext E8
  have E_b8 : Exa Z h8 b8 "com/example/message_ledger/messageledger/requests/ErrorCodeList" := A8
  have F_modCount_b8 : Fld Z h8 b8 "java/util/AbstractList" "modCount" "I" (.int (0 : Int32)) := D8 (Or.inl (hw _ (List.mem_of_getElem? (i := 33) rfl))) (ty := .int) (by decide)
  have F_ordinals_b8 : Fld Z h8 b8 "com/example/message_ledger/messageledger/requests/ErrorCodeList" "ordinals" "[B" .null := D8 (Or.inr (hw _ (List.mem_of_getElem? (i := 36) rfl))) (ty := (.array .byte)) (by decide)
  have F_size_b8 : Fld Z h8 b8 "com/example/message_ledger/messageledger/requests/ErrorCodeList" "size" "I" (.int (0 : Int32)) := D8 (Or.inl (hw _ (List.mem_of_getElem? (i := 43) rfl))) (ty := .int) (by decide)
  have pre15 : ∀ tgt, Steps p.tables e below (T8.setTop (mkF m 28 #[.val (.int p1), .val (.int p2), .val (.int p3), .val (.int p4), .val (.ref (A (own_k p1).toNatClampNeg)), .val (.ref (A (own_k p2).toNatClampNeg)), .val (.ref (A (own_k p3).toNatClampNeg)), .unset, .unset, .unset, .unset, .unset, .unset, .unset] [(.int ((3 : Int32) + (p4 &&& (7 : Int32)))), (.ref b8), (.ref b8)])) tgt → Steps p.tables e below (s₁.setTop (entryFrame m #[(.int p1), (.int p2), (.int p3), (.int p4)] maxLocals)) tgt := by
    intro tgt kk
    refine pre7 tgt ?_
    refine st8 _ ?_
    show Steps p.tables e below (T8.setTop (mkF m 21 #[.val (.int p1), .val (.int p2), .val (.int p3), .val (.int p4), .val (.ref (A (own_k p1).toNatClampNeg)), .val (.ref (A (own_k p2).toNatClampNeg)), .val (.ref (A (own_k p3).toNatClampNeg)), .unset, .unset, .unset, .unset, .unset, .unset, .unset] [(.ref b8)])) _
    refine XS.dup X8.here hx rfl (hb hby at_21) rfl rfl ?_
    show Steps p.tables e below (T8.setTop (mkF m 22 #[.val (.int p1), .val (.int p2), .val (.int p3), .val (.int p4), .val (.ref (A (own_k p1).toNatClampNeg)), .val (.ref (A (own_k p2).toNatClampNeg)), .val (.ref (A (own_k p3).toNatClampNeg)), .unset, .unset, .unset, .unset, .unset, .unset, .unset] [(.ref b8), (.ref b8)])) _
    refine XS.iconst X8.here hx rfl (hb hby at_22) ?_
    show Steps p.tables e below (T8.setTop (mkF m 23 #[.val (.int p1), .val (.int p2), .val (.int p3), .val (.int p4), .val (.ref (A (own_k p1).toNatClampNeg)), .val (.ref (A (own_k p2).toNatClampNeg)), .val (.ref (A (own_k p3).toNatClampNeg)), .unset, .unset, .unset, .unset, .unset, .unset, .unset] [(.int (3 : Int32)), (.ref b8), (.ref b8)])) _
    refine XS.iloadN X8.here hx rfl (hb hby at_23) rfl ?_
    show Steps p.tables e below (T8.setTop (mkF m 24 #[.val (.int p1), .val (.int p2), .val (.int p3), .val (.int p4), .val (.ref (A (own_k p1).toNatClampNeg)), .val (.ref (A (own_k p2).toNatClampNeg)), .val (.ref (A (own_k p3).toNatClampNeg)), .unset, .unset, .unset, .unset, .unset, .unset, .unset] [(.int p4), (.int (3 : Int32)), (.ref b8), (.ref b8)])) _
    refine XS.bipush X8.here hx rfl (hb hby at_24) ?_
    show Steps p.tables e below (T8.setTop (mkF m 26 #[.val (.int p1), .val (.int p2), .val (.int p3), .val (.int p4), .val (.ref (A (own_k p1).toNatClampNeg)), .val (.ref (A (own_k p2).toNatClampNeg)), .val (.ref (A (own_k p3).toNatClampNeg)), .unset, .unset, .unset, .unset, .unset, .unset, .unset] [(.int (7 : Int32)), (.int p4), (.int (3 : Int32)), (.ref b8), (.ref b8)])) _
    refine XS.iand X8.here hx rfl (hb hby at_26) rfl ?_
    show Steps p.tables e below (T8.setTop (mkF m 27 #[.val (.int p1), .val (.int p2), .val (.int p3), .val (.int p4), .val (.ref (A (own_k p1).toNatClampNeg)), .val (.ref (A (own_k p2).toNatClampNeg)), .val (.ref (A (own_k p3).toNatClampNeg)), .unset, .unset, .unset, .unset, .unset, .unset, .unset] [(.int (p4 &&& (7 : Int32))), (.int (3 : Int32)), (.ref b8), (.ref b8)])) _
    refine XS.iadd X8.here hx rfl (hb hby at_27) rfl ?_
    show Steps p.tables e below (T8.setTop (mkF m 28 #[.val (.int p1), .val (.int p2), .val (.int p3), .val (.int p4), .val (.ref (A (own_k p1).toNatClampNeg)), .val (.ref (A (own_k p2).toNatClampNeg)), .val (.ref (A (own_k p3).toNatClampNeg)), .unset, .unset, .unset, .unset, .unset, .unset, .unset] [(.int ((3 : Int32) + (p4 &&& (7 : Int32)))), (.ref b8), (.ref b8)])) _
    exact kk
  have lt16_0 := V_C.lt
  have lt16_1 := E_p1.lt
  have lt16_2 := E_p2.lt
  have lt16_3 := E_p3.lt
  have lt16_4 := E_b8.lt
  obtain ⟨_, _, ⟨T16, L16, k16, n16⟩, -, X16, ⟨Lc16, hQ16, l16, y16, z16⟩, st16⟩ := X8.specialBack hx (y := (⟨"com/example/message_ledger/messageledger/requests/ErrorCodeList", "<init>", "(I)V"⟩ : MethodName)) rfl hown (mvT hZ (hw _ (List.mem_of_getElem? (i := 15) rfl))) (mvT hZ (hw _ (List.mem_of_getElem? (i := 16) rfl))) (mvT hZ (hw _ (List.mem_of_getElem? (i := 17) rfl))) (by decide) (backOf (W := 1) (rmInit l Z a0 hw [] b8 (((3 : Int32) + (p4 &&& (7 : Int32)))) h8 n0 Zs14 E_b8 F_modCount_b8 F_ordinals_b8 F_size_b8 gn13 (own_n p4).1 (own_n p4).2.1) hZ (hw _ (List.mem_of_getElem? (i := 17) rfl)) (hw _ (List.mem_of_getElem? (i := 14) rfl)) (by decide) (by decide)) (g := (mkF m 28 #[.val (.int p1), .val (.int p2), .val (.int p3), .val (.int p4), .val (.ref (A (own_k p1).toNatClampNeg)), .val (.ref (A (own_k p2).toNatClampNeg)), .val (.ref (A (own_k p3).toNatClampNeg)), .unset, .unset, .unset, .unset, .unset, .unset, .unset] [(.int ((3 : Int32) + (p4 &&& (7 : Int32)))), (.ref b8), (.ref b8)])) rfl (by rw [hml]; rfl) (Steps.refl _) (a := b8) (argsL := [(.int ((3 : Int32) + (p4 &&& (7 : Int32))))]) (rest := [(.ref b8)]) (lenOf pd__I_V rfl) rfl (by show 2 * 0 + _ ≤ _; exact Nat.le_of_eq rfl) (hb hby at_28) (fun _ _ => ⟨rfl, e8, (by decide : 1 + 1 ≤ _), (by decide : 3 + 10 ≤ _)⟩)
  dsimp only [Pt.U, Pt.locs, Pt.cells, Pt.slots] at X16 l16 y16 z16 st16 hQ16
  subst l16 y16 z16
  obtain ⟨rfl, N16q, K16, bb16, kb16, gb16, sb16, QmodCount16, Qordinals16, Qsize16, Qv16⟩ := hQ16
  have N16 := Fr.app N6 N16q
  have pl18 := own_plain_Exa E_b8
  have S_CODES : Sta Z T16.heap "com/example/message_ledger/messageledger/requests/ErrorCodeList" "CODES" "[Lcom/example/message_ledger/messageledger/wire/ErrorCode;" (.ref aC) := own_sta_keep S_CODES K16 (allS pl18 all0)
  have V_C : Arv Z T16.heap aC kC (.object "com/example/message_ledger/messageledger/wire/ErrorCode") (19 : Int32) (own_codes A) .null := V_C.keep K16 (ninS ne9 nin0)
  have E_p1 : Exa Z T16.heap (A (own_k p1).toNatClampNeg) "com/example/message_ledger/messageledger/wire/ErrorCode" := E_p1.keep K16
  have F_p1 : Fld Z T16.heap (A (own_k p1).toNatClampNeg) "java/lang/Enum" "ordinal" "I" (.int (own_k p1)) := F_p1.keep K16 (ninS ne10 nin0)
  have E_p2 : Exa Z T16.heap (A (own_k p2).toNatClampNeg) "com/example/message_ledger/messageledger/wire/ErrorCode" := E_p2.keep K16
  have F_p2 : Fld Z T16.heap (A (own_k p2).toNatClampNeg) "java/lang/Enum" "ordinal" "I" (.int (own_k p2)) := F_p2.keep K16 (ninS ne11 nin0)
  have E_p3 : Exa Z T16.heap (A (own_k p3).toNatClampNeg) "com/example/message_ledger/messageledger/wire/ErrorCode" := E_p3.keep K16
  have F_p3 : Fld Z T16.heap (A (own_k p3).toNatClampNeg) "java/lang/Enum" "ordinal" "I" (.int (own_k p3)) := F_p3.keep K16 (ninS ne12 nin0)
  have E_b8 : Exa Z T16.heap b8 "com/example/message_ledger/messageledger/requests/ErrorCodeList" := E_b8.keep K16
  have Zs17 : n0 ≤ T16.heap.size := Nat.le_trans Zs14 K16.1
  have KC17 : Keep h0 T16.heap [] := KC14.trans K16 (allS (Or.inr sz13) all0)
  have neb16_1 : aC ≠ bb16 := Nat.ne_of_lt (Nat.lt_of_lt_of_le lt16_0 sb16)
  have neb16_2 : (A (own_k p1).toNatClampNeg) ≠ bb16 := Nat.ne_of_lt (Nat.lt_of_lt_of_le lt16_1 sb16)
  have neb16_3 : (A (own_k p2).toNatClampNeg) ≠ bb16 := Nat.ne_of_lt (Nat.lt_of_lt_of_le lt16_2 sb16)
  have neb16_4 : (A (own_k p3).toNatClampNeg) ≠ bb16 := Nat.ne_of_lt (Nat.lt_of_lt_of_le lt16_3 sb16)
  have neb16_5 : b8 ≠ bb16 := Nat.ne_of_lt (Nat.lt_of_lt_of_le lt16_4 sb16)
  have szb16 : h0.size ≤ bb16 := Nat.le_trans KC14.1 sb16
  have F_modCount_b8 := QmodCount16
  have F_ordinals_b8 := Qordinals16
  have F_size_b8 := Qsize16
  have V_bb := Qv16
  have pre19 : ∀ tgt, Steps p.tables e below (T16.setTop (mkF m 37 #[.val (.int p1), .val (.int p2), .val (.int p3), .val (.int p4), .val (.ref (A (own_k p1).toNatClampNeg)), .val (.ref (A (own_k p2).toNatClampNeg)), .val (.ref (A (own_k p3).toNatClampNeg)), .val (.ref b8), .unset, .unset, .unset, .unset, .unset, .unset] [(.ref (A (own_k p1).toNatClampNeg)), (.ref b8)])) tgt → Steps p.tables e below (s₁.setTop (entryFrame m #[(.int p1), (.int p2), (.int p3), (.int p4)] maxLocals)) tgt := by
    intro tgt kk
    refine pre15 tgt ?_
    refine st16.trans ?_
    show Steps p.tables e below (T16.setTop (mkF m 31 #[.val (.int p1), .val (.int p2), .val (.int p3), .val (.int p4), .val (.ref (A (own_k p1).toNatClampNeg)), .val (.ref (A (own_k p2).toNatClampNeg)), .val (.ref (A (own_k p3).toNatClampNeg)), .unset, .unset, .unset, .unset, .unset, .unset, .unset] [(.ref b8)])) _
    refine XS.astore X16.here hx rfl (hb hby at_31) rfl rfl (l' := #[.val (.int p1), .val (.int p2), .val (.int p3), .val (.int p4), .val (.ref (A (own_k p1).toNatClampNeg)), .val (.ref (A (own_k p2).toNatClampNeg)), .val (.ref (A (own_k p3).toNatClampNeg)), .val (.ref b8), .unset, .unset, .unset, .unset, .unset, .unset]) rfl ?_
    show Steps p.tables e below (T16.setTop (mkF m 33 #[.val (.int p1), .val (.int p2), .val (.int p3), .val (.int p4), .val (.ref (A (own_k p1).toNatClampNeg)), .val (.ref (A (own_k p2).toNatClampNeg)), .val (.ref (A (own_k p3).toNatClampNeg)), .val (.ref b8), .unset, .unset, .unset, .unset, .unset, .unset] [])) _
    refine XS.aload X16.here hx rfl (hb hby at_33) rfl rfl ?_
    show Steps p.tables e below (T16.setTop (mkF m 35 #[.val (.int p1), .val (.int p2), .val (.int p3), .val (.int p4), .val (.ref (A (own_k p1).toNatClampNeg)), .val (.ref (A (own_k p2).toNatClampNeg)), .val (.ref (A (own_k p3).toNatClampNeg)), .val (.ref b8), .unset, .unset, .unset, .unset, .unset, .unset] [(.ref b8)])) _
    refine XS.aload X16.here hx rfl (hb hby at_35) rfl rfl ?_
    show Steps p.tables e below (T16.setTop (mkF m 37 #[.val (.int p1), .val (.int p2), .val (.int p3), .val (.int p4), .val (.ref (A (own_k p1).toNatClampNeg)), .val (.ref (A (own_k p2).toNatClampNeg)), .val (.ref (A (own_k p3).toNatClampNeg)), .val (.ref b8), .unset, .unset, .unset, .unset, .unset, .unset] [(.ref (A (own_k p1).toNatClampNeg)), (.ref b8)])) _
    exact kk
  obtain ⟨cq20, kq20, q20a, q20b, q20c⟩ := isOf hZ rfl E_b8
  obtain ⟨_, _, ⟨T20, L20, k20, n20⟩, -, X20, ⟨Lc20, hQ20, l20, y20, z20⟩, st20⟩ := X16.virtualBack hx (y := (⟨"com/example/message_ledger/messageledger/requests/ErrorCodeList", "add", "(Lcom/example/message_ledger/messageledger/wire/ErrorCode;)Z"⟩ : MethodName)) (z := (⟨"com/example/message_ledger/messageledger/requests/ErrorCodeList", "add", "(Lcom/example/message_ledger/messageledger/wire/ErrorCode;)Z"⟩ : MethodName)) hown (mvT hZ (hw _ (List.mem_of_getElem? (i := 37) rfl))) (mvT hZ (hw _ (List.mem_of_getElem? (i := 38) rfl))) (notFace_of_selects (args := #[]) (mvT hZ (hw _ (List.mem_of_getElem? (i := 40) rfl)))) (mvT hZ (hw _ (List.mem_of_getElem? (i := 40) rfl))) (mvT hZ (hw _ (List.mem_of_getElem? (i := 39) rfl))) (by decide) (backOf (W := 0) (rmAdd0 l Z a0 hw [] b8 bb16 (A (own_k p1).toNatClampNeg) kb16 (((3 : Int32) + (p4 &&& (7 : Int32)))) ((0 : Int32)) ((own_k p1)) ((0 : Int32)) ((0 : Int32)) ((0 : Int32)) T16.heap n0 Zs17 E_b8 F_modCount_b8 F_ordinals_b8 F_size_b8 V_bb E_p1 F_p1 gn13 gb16 neb16_5 ne10 neb16_2 (own_n p4).2.2 (own_kb _)) hZ (hw _ (List.mem_of_getElem? (i := 41) rfl)) (hw _ (List.mem_of_getElem? (i := 14) rfl)) (by decide) (by decide)) q20a q20c (g := (mkF m 37 #[.val (.int p1), .val (.int p2), .val (.int p3), .val (.int p4), .val (.ref (A (own_k p1).toNatClampNeg)), .val (.ref (A (own_k p2).toNatClampNeg)), .val (.ref (A (own_k p3).toNatClampNeg)), .val (.ref b8), .unset, .unset, .unset, .unset, .unset, .unset] [(.ref (A (own_k p1).toNatClampNeg)), (.ref b8)])) rfl (by rw [hml]; rfl) (Steps.refl _) (argsL := [(.ref (A (own_k p1).toNatClampNeg))]) (rest := []) (lenOf pd__Lcom_example_message_ledger_messageledger_wire_ErrorCode__Z rfl) rfl (by show 2 * 0 + _ ≤ _; exact Nat.le_of_eq rfl) (hb hby at_37) (fun _ _ => ⟨rfl, rfl, (by decide : 2 + 0 ≤ _), (by decide : 13 + 0 ≤ _)⟩)
  dsimp only [Pt.U, Pt.locs, Pt.cells, Pt.slots] at X20 l20 y20 z20 st20 hQ20
  subst l20 y20 z20
  obtain ⟨rfl, N20q, K20, QmodCount20, Qordinals20, Qsize20, Qv20⟩ := hQ20
  have N20 := Fr.app N16 N20q
  have pl22 := own_plain_Exa E_b8
  have pl23 := own_plain_Arv V_bb
  have S_CODES : Sta Z T20.heap "com/example/message_ledger/messageledger/requests/ErrorCodeList" "CODES" "[Lcom/example/message_ledger/messageledger/wire/ErrorCode;" (.ref aC) := own_sta_keep S_CODES K20 (allS pl22 (allS pl23 all0))
  have V_C : Arv Z T20.heap aC kC (.object "com/example/message_ledger/messageledger/wire/ErrorCode") (19 : Int32) (own_codes A) .null := V_C.keep K20 (ninS ne9 (ninS neb16_1 nin0))
  have E_p1 : Exa Z T20.heap (A (own_k p1).toNatClampNeg) "com/example/message_ledger/messageledger/wire/ErrorCode" := E_p1.keep K20
  have F_p1 : Fld Z T20.heap (A (own_k p1).toNatClampNeg) "java/lang/Enum" "ordinal" "I" (.int (own_k p1)) := F_p1.keep K20 (ninS ne10 (ninS neb16_2 nin0))
  have E_p2 : Exa Z T20.heap (A (own_k p2).toNatClampNeg) "com/example/message_ledger/messageledger/wire/ErrorCode" := E_p2.keep K20
  have F_p2 : Fld Z T20.heap (A (own_k p2).toNatClampNeg) "java/lang/Enum" "ordinal" "I" (.int (own_k p2)) := F_p2.keep K20 (ninS ne11 (ninS neb16_3 nin0))
  have E_p3 : Exa Z T20.heap (A (own_k p3).toNatClampNeg) "com/example/message_ledger/messageledger/wire/ErrorCode" := E_p3.keep K20
  have F_p3 : Fld Z T20.heap (A (own_k p3).toNatClampNeg) "java/lang/Enum" "ordinal" "I" (.int (own_k p3)) := F_p3.keep K20 (ninS ne12 (ninS neb16_4 nin0))
  have E_b8 : Exa Z T20.heap b8 "com/example/message_ledger/messageledger/requests/ErrorCodeList" := E_b8.keep K20
  have Zs21 : n0 ≤ T20.heap.size := Nat.le_trans Zs17 K20.1
  have KC21 : Keep h0 T20.heap [] := KC17.trans K20 (allS (Or.inr sz13) (allS (Or.inr szb16) all0))
  have F_modCount_b8 := QmodCount20
  have F_ordinals_b8 := Qordinals20
  have F_size_b8 := Qsize20
  have V_bb := Qv20
  have pre24 : ∀ tgt, Steps p.tables e below (T20.setTop (mkF m 44 #[.val (.int p1), .val (.int p2), .val (.int p3), .val (.int p4), .val (.ref (A (own_k p1).toNatClampNeg)), .val (.ref (A (own_k p2).toNatClampNeg)), .val (.ref (A (own_k p3).toNatClampNeg)), .val (.ref b8), .val (.int (1 : Int32)), .unset, .unset, .unset, .unset, .unset] [(.ref b8)])) tgt → Steps p.tables e below (s₁.setTop (entryFrame m #[(.int p1), (.int p2), (.int p3), (.int p4)] maxLocals)) tgt := by
    intro tgt kk
    refine pre19 tgt ?_
    refine st20.trans ?_
    show Steps p.tables e below (T20.setTop (mkF m 40 #[.val (.int p1), .val (.int p2), .val (.int p3), .val (.int p4), .val (.ref (A (own_k p1).toNatClampNeg)), .val (.ref (A (own_k p2).toNatClampNeg)), .val (.ref (A (own_k p3).toNatClampNeg)), .val (.ref b8), .unset, .unset, .unset, .unset, .unset, .unset] [(.int (1 : Int32))])) _
    refine XS.istore X20.here hx rfl (hb hby at_40) rfl (l' := #[.val (.int p1), .val (.int p2), .val (.int p3), .val (.int p4), .val (.ref (A (own_k p1).toNatClampNeg)), .val (.ref (A (own_k p2).toNatClampNeg)), .val (.ref (A (own_k p3).toNatClampNeg)), .val (.ref b8), .val (.int (1 : Int32)), .unset, .unset, .unset, .unset, .unset]) rfl ?_
    show Steps p.tables e below (T20.setTop (mkF m 42 #[.val (.int p1), .val (.int p2), .val (.int p3), .val (.int p4), .val (.ref (A (own_k p1).toNatClampNeg)), .val (.ref (A (own_k p2).toNatClampNeg)), .val (.ref (A (own_k p3).toNatClampNeg)), .val (.ref b8), .val (.int (1 : Int32)), .unset, .unset, .unset, .unset, .unset] [])) _
    refine XS.aload X20.here hx rfl (hb hby at_42) rfl rfl ?_
    show Steps p.tables e below (T20.setTop (mkF m 44 #[.val (.int p1), .val (.int p2), .val (.int p3), .val (.int p4), .val (.ref (A (own_k p1).toNatClampNeg)), .val (.ref (A (own_k p2).toNatClampNeg)), .val (.ref (A (own_k p3).toNatClampNeg)), .val (.ref b8), .val (.int (1 : Int32)), .unset, .unset, .unset, .unset, .unset] [(.ref b8)])) _
    exact kk
  obtain ⟨cq25, kq25, q25a, q25b, q25c⟩ := isOf hZ rfl E_b8
  obtain ⟨_, _, ⟨T25, L25, k25, n25⟩, -, X25, ⟨Lc25, hQ25, l25, y25, z25⟩, st25⟩ := X20.virtualBack hx (y := (⟨"com/example/message_ledger/messageledger/requests/ErrorCodeList", "size", "()I"⟩ : MethodName)) (z := (⟨"com/example/message_ledger/messageledger/requests/ErrorCodeList", "size", "()I"⟩ : MethodName)) hown (mvT hZ (hw _ (List.mem_of_getElem? (i := 55) rfl))) (mvT hZ (hw _ (List.mem_of_getElem? (i := 56) rfl))) (notFace_of_selects (args := #[]) (mvT hZ (hw _ (List.mem_of_getElem? (i := 58) rfl)))) (mvT hZ (hw _ (List.mem_of_getElem? (i := 58) rfl))) (mvT hZ (hw _ (List.mem_of_getElem? (i := 57) rfl))) (by decide) (backOf (W := 0) (rmSize l Z a0 hw [] b8 ((1 : Int32)) T20.heap n0 Zs21 F_size_b8) hZ (hw _ (List.mem_of_getElem? (i := 59) rfl)) (hw _ (List.mem_of_getElem? (i := 14) rfl)) (by decide) (by decide)) q25a q25c (g := (mkF m 44 #[.val (.int p1), .val (.int p2), .val (.int p3), .val (.int p4), .val (.ref (A (own_k p1).toNatClampNeg)), .val (.ref (A (own_k p2).toNatClampNeg)), .val (.ref (A (own_k p3).toNatClampNeg)), .val (.ref b8), .val (.int (1 : Int32)), .unset, .unset, .unset, .unset, .unset] [(.ref b8)])) rfl (by rw [hml]; rfl) (Steps.refl _) (argsL := []) (rest := []) (lenOf pd___I rfl) rfl (by show 2 * 0 + _ ≤ _; exact Nat.le_of_eq rfl) (hb hby at_44) (fun _ _ => ⟨rfl, rfl, (by decide : 2 + 0 ≤ _), (by decide : 13 + 0 ≤ _)⟩)
  dsimp only [Pt.U, Pt.locs, Pt.cells, Pt.slots] at X25 l25 y25 z25 st25 hQ25
  subst l25 y25 z25
  obtain ⟨rfl, N25q, hh25⟩ := hQ25
  have N25 := Fr.app N20 N25q
  have pre26 : ∀ tgt, Steps p.tables e below (T25.setTop (mkF m 53 #[.val (.int p1), .val (.int p2), .val (.int p3), .val (.int p4), .val (.ref (A (own_k p1).toNatClampNeg)), .val (.ref (A (own_k p2).toNatClampNeg)), .val (.ref (A (own_k p3).toNatClampNeg)), .val (.ref b8), .val (.int (1 : Int32)), .val (.int (1 : Int32)), .unset, .unset, .unset, .unset] [(.ref (A (own_k p2).toNatClampNeg)), (.ref b8)])) tgt → Steps p.tables e below (s₁.setTop (entryFrame m #[(.int p1), (.int p2), (.int p3), (.int p4)] maxLocals)) tgt := by
    intro tgt kk
    refine pre24 tgt ?_
    refine st25.trans ?_
    show Steps p.tables e below (T25.setTop (mkF m 47 #[.val (.int p1), .val (.int p2), .val (.int p3), .val (.int p4), .val (.ref (A (own_k p1).toNatClampNeg)), .val (.ref (A (own_k p2).toNatClampNeg)), .val (.ref (A (own_k p3).toNatClampNeg)), .val (.ref b8), .val (.int (1 : Int32)), .unset, .unset, .unset, .unset, .unset] [(.int (1 : Int32))])) _
    refine XS.istore X25.here hx rfl (hb hby at_47) rfl (l' := #[.val (.int p1), .val (.int p2), .val (.int p3), .val (.int p4), .val (.ref (A (own_k p1).toNatClampNeg)), .val (.ref (A (own_k p2).toNatClampNeg)), .val (.ref (A (own_k p3).toNatClampNeg)), .val (.ref b8), .val (.int (1 : Int32)), .val (.int (1 : Int32)), .unset, .unset, .unset, .unset]) rfl ?_
    show Steps p.tables e below (T25.setTop (mkF m 49 #[.val (.int p1), .val (.int p2), .val (.int p3), .val (.int p4), .val (.ref (A (own_k p1).toNatClampNeg)), .val (.ref (A (own_k p2).toNatClampNeg)), .val (.ref (A (own_k p3).toNatClampNeg)), .val (.ref b8), .val (.int (1 : Int32)), .val (.int (1 : Int32)), .unset, .unset, .unset, .unset] [])) _
    refine XS.aload X25.here hx rfl (hb hby at_49) rfl rfl ?_
    show Steps p.tables e below (T25.setTop (mkF m 51 #[.val (.int p1), .val (.int p2), .val (.int p3), .val (.int p4), .val (.ref (A (own_k p1).toNatClampNeg)), .val (.ref (A (own_k p2).toNatClampNeg)), .val (.ref (A (own_k p3).toNatClampNeg)), .val (.ref b8), .val (.int (1 : Int32)), .val (.int (1 : Int32)), .unset, .unset, .unset, .unset] [(.ref b8)])) _
    refine XS.aload X25.here hx rfl (hb hby at_51) rfl rfl ?_
    show Steps p.tables e below (T25.setTop (mkF m 53 #[.val (.int p1), .val (.int p2), .val (.int p3), .val (.int p4), .val (.ref (A (own_k p1).toNatClampNeg)), .val (.ref (A (own_k p2).toNatClampNeg)), .val (.ref (A (own_k p3).toNatClampNeg)), .val (.ref b8), .val (.int (1 : Int32)), .val (.int (1 : Int32)), .unset, .unset, .unset, .unset] [(.ref (A (own_k p2).toNatClampNeg)), (.ref b8)])) _
    exact kk
  obtain ⟨cq27, kq27, q27a, q27b, q27c⟩ := isOf hZ hh25 E_b8
  obtain ⟨_, _, ⟨T27, L27, k27, n27⟩, -, X27, ⟨Lc27, hQ27, l27, y27, z27⟩, st27⟩ := X25.virtualBack hx (y := (⟨"com/example/message_ledger/messageledger/requests/ErrorCodeList", "add", "(Lcom/example/message_ledger/messageledger/wire/ErrorCode;)Z"⟩ : MethodName)) (z := (⟨"com/example/message_ledger/messageledger/requests/ErrorCodeList", "add", "(Lcom/example/message_ledger/messageledger/wire/ErrorCode;)Z"⟩ : MethodName)) hown (mvT hZ (hw _ (List.mem_of_getElem? (i := 37) rfl))) (mvT hZ (hw _ (List.mem_of_getElem? (i := 38) rfl))) (notFace_of_selects (args := #[]) (mvT hZ (hw _ (List.mem_of_getElem? (i := 40) rfl)))) (mvT hZ (hw _ (List.mem_of_getElem? (i := 40) rfl))) (mvT hZ (hw _ (List.mem_of_getElem? (i := 39) rfl))) (by decide) (backOf (W := 0) (rmAdd1 l Z a0 hw [] b8 bb16 (A (own_k p2).toNatClampNeg) kb16 (((3 : Int32) + (p4 &&& (7 : Int32)))) (((0 : Int32) + (1 : Int32))) ((own_k p2)) ((own_k p1)) ((0 : Int32)) ((0 : Int32)) T20.heap n0 Zs21 E_b8 F_modCount_b8 F_ordinals_b8 F_size_b8 V_bb E_p2 F_p2 gn13 gb16 neb16_5 ne11 neb16_3 (own_n p4).2.2 (own_kb _)) hZ (hw _ (List.mem_of_getElem? (i := 41) rfl)) (hw _ (List.mem_of_getElem? (i := 14) rfl)) (by decide) (by decide)) q27a q27c (g := (mkF m 53 #[.val (.int p1), .val (.int p2), .val (.int p3), .val (.int p4), .val (.ref (A (own_k p1).toNatClampNeg)), .val (.ref (A (own_k p2).toNatClampNeg)), .val (.ref (A (own_k p3).toNatClampNeg)), .val (.ref b8), .val (.int (1 : Int32)), .val (.int (1 : Int32)), .unset, .unset, .unset, .unset] [(.ref (A (own_k p2).toNatClampNeg)), (.ref b8)])) rfl (by rw [hml]; rfl) (Steps.refl _) (argsL := [(.ref (A (own_k p2).toNatClampNeg))]) (rest := []) (lenOf pd__Lcom_example_message_ledger_messageledger_wire_ErrorCode__Z rfl) rfl (by show 2 * 0 + _ ≤ _; exact Nat.le_of_eq rfl) (hb hby at_53) (fun _ _ => ⟨rfl, hh25, (by decide : 2 + 0 ≤ _), (by decide : 13 + 0 ≤ _)⟩)
  dsimp only [Pt.U, Pt.locs, Pt.cells, Pt.slots] at X27 l27 y27 z27 st27 hQ27
  subst l27 y27 z27
  obtain ⟨rfl, N27q, K27, QmodCount27, Qordinals27, Qsize27, Qv27⟩ := hQ27
  have N27 := Fr.app N25 N27q
  have pl29 := own_plain_Exa E_b8
  have pl30 := own_plain_Arv V_bb
  have S_CODES : Sta Z T27.heap "com/example/message_ledger/messageledger/requests/ErrorCodeList" "CODES" "[Lcom/example/message_ledger/messageledger/wire/ErrorCode;" (.ref aC) := own_sta_keep S_CODES K27 (allS pl29 (allS pl30 all0))
  have V_C : Arv Z T27.heap aC kC (.object "com/example/message_ledger/messageledger/wire/ErrorCode") (19 : Int32) (own_codes A) .null := V_C.keep K27 (ninS ne9 (ninS neb16_1 nin0))
  have E_p1 : Exa Z T27.heap (A (own_k p1).toNatClampNeg) "com/example/message_ledger/messageledger/wire/ErrorCode" := E_p1.keep K27
  have F_p1 : Fld Z T27.heap (A (own_k p1).toNatClampNeg) "java/lang/Enum" "ordinal" "I" (.int (own_k p1)) := F_p1.keep K27 (ninS ne10 (ninS neb16_2 nin0))
  have E_p2 : Exa Z T27.heap (A (own_k p2).toNatClampNeg) "com/example/message_ledger/messageledger/wire/ErrorCode" := E_p2.keep K27
  have F_p2 : Fld Z T27.heap (A (own_k p2).toNatClampNeg) "java/lang/Enum" "ordinal" "I" (.int (own_k p2)) := F_p2.keep K27 (ninS ne11 (ninS neb16_3 nin0))
  have E_p3 : Exa Z T27.heap (A (own_k p3).toNatClampNeg) "com/example/message_ledger/messageledger/wire/ErrorCode" := E_p3.keep K27
  have F_p3 : Fld Z T27.heap (A (own_k p3).toNatClampNeg) "java/lang/Enum" "ordinal" "I" (.int (own_k p3)) := F_p3.keep K27 (ninS ne12 (ninS neb16_4 nin0))
  have E_b8 : Exa Z T27.heap b8 "com/example/message_ledger/messageledger/requests/ErrorCodeList" := E_b8.keep K27
  have Zs28 : n0 ≤ T27.heap.size := Nat.le_trans Zs21 K27.1
  have KC28 : Keep h0 T27.heap [] := KC21.trans K27 (allS (Or.inr sz13) (allS (Or.inr szb16) all0))
  have F_modCount_b8 := QmodCount27
  have F_ordinals_b8 := Qordinals27
  have F_size_b8 := Qsize27
  have V_bb := Qv27
  have pre31 : ∀ tgt, Steps p.tables e below (T27.setTop (mkF m 60 #[.val (.int p1), .val (.int p2), .val (.int p3), .val (.int p4), .val (.ref (A (own_k p1).toNatClampNeg)), .val (.ref (A (own_k p2).toNatClampNeg)), .val (.ref (A (own_k p3).toNatClampNeg)), .val (.ref b8), .val (.int (1 : Int32)), .val (.int (1 : Int32)), .val (.int (1 : Int32)), .unset, .unset, .unset] [(.ref b8)])) tgt → Steps p.tables e below (s₁.setTop (entryFrame m #[(.int p1), (.int p2), (.int p3), (.int p4)] maxLocals)) tgt := by
    intro tgt kk
    refine pre26 tgt ?_
    refine st27.trans ?_
    show Steps p.tables e below (T27.setTop (mkF m 56 #[.val (.int p1), .val (.int p2), .val (.int p3), .val (.int p4), .val (.ref (A (own_k p1).toNatClampNeg)), .val (.ref (A (own_k p2).toNatClampNeg)), .val (.ref (A (own_k p3).toNatClampNeg)), .val (.ref b8), .val (.int (1 : Int32)), .val (.int (1 : Int32)), .unset, .unset, .unset, .unset] [(.int (1 : Int32))])) _
    refine XS.istore X27.here hx rfl (hb hby at_56) rfl (l' := #[.val (.int p1), .val (.int p2), .val (.int p3), .val (.int p4), .val (.ref (A (own_k p1).toNatClampNeg)), .val (.ref (A (own_k p2).toNatClampNeg)), .val (.ref (A (own_k p3).toNatClampNeg)), .val (.ref b8), .val (.int (1 : Int32)), .val (.int (1 : Int32)), .val (.int (1 : Int32)), .unset, .unset, .unset]) rfl ?_
    show Steps p.tables e below (T27.setTop (mkF m 58 #[.val (.int p1), .val (.int p2), .val (.int p3), .val (.int p4), .val (.ref (A (own_k p1).toNatClampNeg)), .val (.ref (A (own_k p2).toNatClampNeg)), .val (.ref (A (own_k p3).toNatClampNeg)), .val (.ref b8), .val (.int (1 : Int32)), .val (.int (1 : Int32)), .val (.int (1 : Int32)), .unset, .unset, .unset] [])) _
    refine XS.aload X27.here hx rfl (hb hby at_58) rfl rfl ?_
    show Steps p.tables e below (T27.setTop (mkF m 60 #[.val (.int p1), .val (.int p2), .val (.int p3), .val (.int p4), .val (.ref (A (own_k p1).toNatClampNeg)), .val (.ref (A (own_k p2).toNatClampNeg)), .val (.ref (A (own_k p3).toNatClampNeg)), .val (.ref b8), .val (.int (1 : Int32)), .val (.int (1 : Int32)), .val (.int (1 : Int32)), .unset, .unset, .unset] [(.ref b8)])) _
    exact kk
  obtain ⟨cq32, kq32, q32a, q32b, q32c⟩ := isOf hZ rfl E_b8
  obtain ⟨_, _, ⟨T32, L32, k32, n32⟩, -, X32, ⟨Lc32, hQ32, l32, y32, z32⟩, st32⟩ := X27.virtualBack hx (y := (⟨"com/example/message_ledger/messageledger/requests/ErrorCodeList", "size", "()I"⟩ : MethodName)) (z := (⟨"com/example/message_ledger/messageledger/requests/ErrorCodeList", "size", "()I"⟩ : MethodName)) hown (mvT hZ (hw _ (List.mem_of_getElem? (i := 55) rfl))) (mvT hZ (hw _ (List.mem_of_getElem? (i := 56) rfl))) (notFace_of_selects (args := #[]) (mvT hZ (hw _ (List.mem_of_getElem? (i := 58) rfl)))) (mvT hZ (hw _ (List.mem_of_getElem? (i := 58) rfl))) (mvT hZ (hw _ (List.mem_of_getElem? (i := 57) rfl))) (by decide) (backOf (W := 0) (rmSize l Z a0 hw [] b8 ((2 : Int32)) T27.heap n0 Zs28 F_size_b8) hZ (hw _ (List.mem_of_getElem? (i := 59) rfl)) (hw _ (List.mem_of_getElem? (i := 14) rfl)) (by decide) (by decide)) q32a q32c (g := (mkF m 60 #[.val (.int p1), .val (.int p2), .val (.int p3), .val (.int p4), .val (.ref (A (own_k p1).toNatClampNeg)), .val (.ref (A (own_k p2).toNatClampNeg)), .val (.ref (A (own_k p3).toNatClampNeg)), .val (.ref b8), .val (.int (1 : Int32)), .val (.int (1 : Int32)), .val (.int (1 : Int32)), .unset, .unset, .unset] [(.ref b8)])) rfl (by rw [hml]; rfl) (Steps.refl _) (argsL := []) (rest := []) (lenOf pd___I rfl) rfl (by show 2 * 0 + _ ≤ _; exact Nat.le_of_eq rfl) (hb hby at_60) (fun _ _ => ⟨rfl, rfl, (by decide : 2 + 0 ≤ _), (by decide : 13 + 0 ≤ _)⟩)
  dsimp only [Pt.U, Pt.locs, Pt.cells, Pt.slots] at X32 l32 y32 z32 st32 hQ32
  subst l32 y32 z32
  obtain ⟨rfl, N32q, hh32⟩ := hQ32
  have N32 := Fr.app N27 N32q
  have pre33 : ∀ tgt, Steps p.tables e below (T32.setTop (mkF m 69 #[.val (.int p1), .val (.int p2), .val (.int p3), .val (.int p4), .val (.ref (A (own_k p1).toNatClampNeg)), .val (.ref (A (own_k p2).toNatClampNeg)), .val (.ref (A (own_k p3).toNatClampNeg)), .val (.ref b8), .val (.int (1 : Int32)), .val (.int (1 : Int32)), .val (.int (1 : Int32)), .val (.int (2 : Int32)), .unset, .unset] [(.ref (A (own_k p3).toNatClampNeg)), (.ref b8)])) tgt → Steps p.tables e below (s₁.setTop (entryFrame m #[(.int p1), (.int p2), (.int p3), (.int p4)] maxLocals)) tgt := by
    intro tgt kk
    refine pre31 tgt ?_
    refine st32.trans ?_
    show Steps p.tables e below (T32.setTop (mkF m 63 #[.val (.int p1), .val (.int p2), .val (.int p3), .val (.int p4), .val (.ref (A (own_k p1).toNatClampNeg)), .val (.ref (A (own_k p2).toNatClampNeg)), .val (.ref (A (own_k p3).toNatClampNeg)), .val (.ref b8), .val (.int (1 : Int32)), .val (.int (1 : Int32)), .val (.int (1 : Int32)), .unset, .unset, .unset] [(.int (2 : Int32))])) _
    refine XS.istore X32.here hx rfl (hb hby at_63) rfl (l' := #[.val (.int p1), .val (.int p2), .val (.int p3), .val (.int p4), .val (.ref (A (own_k p1).toNatClampNeg)), .val (.ref (A (own_k p2).toNatClampNeg)), .val (.ref (A (own_k p3).toNatClampNeg)), .val (.ref b8), .val (.int (1 : Int32)), .val (.int (1 : Int32)), .val (.int (1 : Int32)), .val (.int (2 : Int32)), .unset, .unset]) rfl ?_
    show Steps p.tables e below (T32.setTop (mkF m 65 #[.val (.int p1), .val (.int p2), .val (.int p3), .val (.int p4), .val (.ref (A (own_k p1).toNatClampNeg)), .val (.ref (A (own_k p2).toNatClampNeg)), .val (.ref (A (own_k p3).toNatClampNeg)), .val (.ref b8), .val (.int (1 : Int32)), .val (.int (1 : Int32)), .val (.int (1 : Int32)), .val (.int (2 : Int32)), .unset, .unset] [])) _
    refine XS.aload X32.here hx rfl (hb hby at_65) rfl rfl ?_
    show Steps p.tables e below (T32.setTop (mkF m 67 #[.val (.int p1), .val (.int p2), .val (.int p3), .val (.int p4), .val (.ref (A (own_k p1).toNatClampNeg)), .val (.ref (A (own_k p2).toNatClampNeg)), .val (.ref (A (own_k p3).toNatClampNeg)), .val (.ref b8), .val (.int (1 : Int32)), .val (.int (1 : Int32)), .val (.int (1 : Int32)), .val (.int (2 : Int32)), .unset, .unset] [(.ref b8)])) _
    refine XS.aload X32.here hx rfl (hb hby at_67) rfl rfl ?_
    show Steps p.tables e below (T32.setTop (mkF m 69 #[.val (.int p1), .val (.int p2), .val (.int p3), .val (.int p4), .val (.ref (A (own_k p1).toNatClampNeg)), .val (.ref (A (own_k p2).toNatClampNeg)), .val (.ref (A (own_k p3).toNatClampNeg)), .val (.ref b8), .val (.int (1 : Int32)), .val (.int (1 : Int32)), .val (.int (1 : Int32)), .val (.int (2 : Int32)), .unset, .unset] [(.ref (A (own_k p3).toNatClampNeg)), (.ref b8)])) _
    exact kk
  obtain ⟨cq34, kq34, q34a, q34b, q34c⟩ := isOf hZ hh32 E_b8
  obtain ⟨_, _, ⟨T34, L34, k34, n34⟩, -, X34, ⟨Lc34, hQ34, l34, y34, z34⟩, st34⟩ := X32.virtualBack hx (y := (⟨"com/example/message_ledger/messageledger/requests/ErrorCodeList", "add", "(Lcom/example/message_ledger/messageledger/wire/ErrorCode;)Z"⟩ : MethodName)) (z := (⟨"com/example/message_ledger/messageledger/requests/ErrorCodeList", "add", "(Lcom/example/message_ledger/messageledger/wire/ErrorCode;)Z"⟩ : MethodName)) hown (mvT hZ (hw _ (List.mem_of_getElem? (i := 37) rfl))) (mvT hZ (hw _ (List.mem_of_getElem? (i := 38) rfl))) (notFace_of_selects (args := #[]) (mvT hZ (hw _ (List.mem_of_getElem? (i := 40) rfl)))) (mvT hZ (hw _ (List.mem_of_getElem? (i := 40) rfl))) (mvT hZ (hw _ (List.mem_of_getElem? (i := 39) rfl))) (by decide) (backOf (W := 0) (rmAdd2 l Z a0 hw [] b8 bb16 (A (own_k p3).toNatClampNeg) kb16 (((3 : Int32) + (p4 &&& (7 : Int32)))) ((((0 : Int32) + (1 : Int32)) + (1 : Int32))) ((own_k p3)) ((own_k p1)) ((own_k p2)) ((0 : Int32)) T27.heap n0 Zs28 E_b8 F_modCount_b8 F_ordinals_b8 F_size_b8 V_bb E_p3 F_p3 gn13 gb16 neb16_5 ne12 neb16_4 (own_n p4).2.2 (own_kb _)) hZ (hw _ (List.mem_of_getElem? (i := 41) rfl)) (hw _ (List.mem_of_getElem? (i := 14) rfl)) (by decide) (by decide)) q34a q34c (g := (mkF m 69 #[.val (.int p1), .val (.int p2), .val (.int p3), .val (.int p4), .val (.ref (A (own_k p1).toNatClampNeg)), .val (.ref (A (own_k p2).toNatClampNeg)), .val (.ref (A (own_k p3).toNatClampNeg)), .val (.ref b8), .val (.int (1 : Int32)), .val (.int (1 : Int32)), .val (.int (1 : Int32)), .val (.int (2 : Int32)), .unset, .unset] [(.ref (A (own_k p3).toNatClampNeg)), (.ref b8)])) rfl (by rw [hml]; rfl) (Steps.refl _) (argsL := [(.ref (A (own_k p3).toNatClampNeg))]) (rest := []) (lenOf pd__Lcom_example_message_ledger_messageledger_wire_ErrorCode__Z rfl) rfl (by show 2 * 0 + _ ≤ _; exact Nat.le_of_eq rfl) (hb hby at_69) (fun _ _ => ⟨rfl, hh32, (by decide : 2 + 0 ≤ _), (by decide : 13 + 0 ≤ _)⟩)
  dsimp only [Pt.U, Pt.locs, Pt.cells, Pt.slots] at X34 l34 y34 z34 st34 hQ34
  subst l34 y34 z34
  obtain ⟨rfl, N34q, K34, QmodCount34, Qordinals34, Qsize34, Qv34⟩ := hQ34
  have N34 := Fr.app N32 N34q
  have pl36 := own_plain_Exa E_b8
  have pl37 := own_plain_Arv V_bb
  have S_CODES : Sta Z T34.heap "com/example/message_ledger/messageledger/requests/ErrorCodeList" "CODES" "[Lcom/example/message_ledger/messageledger/wire/ErrorCode;" (.ref aC) := own_sta_keep S_CODES K34 (allS pl36 (allS pl37 all0))
  have V_C : Arv Z T34.heap aC kC (.object "com/example/message_ledger/messageledger/wire/ErrorCode") (19 : Int32) (own_codes A) .null := V_C.keep K34 (ninS ne9 (ninS neb16_1 nin0))
  have E_p1 : Exa Z T34.heap (A (own_k p1).toNatClampNeg) "com/example/message_ledger/messageledger/wire/ErrorCode" := E_p1.keep K34
  have F_p1 : Fld Z T34.heap (A (own_k p1).toNatClampNeg) "java/lang/Enum" "ordinal" "I" (.int (own_k p1)) := F_p1.keep K34 (ninS ne10 (ninS neb16_2 nin0))
  have E_p2 : Exa Z T34.heap (A (own_k p2).toNatClampNeg) "com/example/message_ledger/messageledger/wire/ErrorCode" := E_p2.keep K34
  have F_p2 : Fld Z T34.heap (A (own_k p2).toNatClampNeg) "java/lang/Enum" "ordinal" "I" (.int (own_k p2)) := F_p2.keep K34 (ninS ne11 (ninS neb16_3 nin0))
  have E_p3 : Exa Z T34.heap (A (own_k p3).toNatClampNeg) "com/example/message_ledger/messageledger/wire/ErrorCode" := E_p3.keep K34
  have F_p3 : Fld Z T34.heap (A (own_k p3).toNatClampNeg) "java/lang/Enum" "ordinal" "I" (.int (own_k p3)) := F_p3.keep K34 (ninS ne12 (ninS neb16_4 nin0))
  have E_b8 : Exa Z T34.heap b8 "com/example/message_ledger/messageledger/requests/ErrorCodeList" := E_b8.keep K34
  have Zs35 : n0 ≤ T34.heap.size := Nat.le_trans Zs28 K34.1
  have KC35 : Keep h0 T34.heap [] := KC28.trans K34 (allS (Or.inr sz13) (allS (Or.inr szb16) all0))
  have F_modCount_b8 := QmodCount34
  have F_ordinals_b8 := Qordinals34
  have F_size_b8 := Qsize34
  have V_bb := Qv34
  have pre38 : ∀ tgt, Steps p.tables e below (T34.setTop (mkF m 76 #[.val (.int p1), .val (.int p2), .val (.int p3), .val (.int p4), .val (.ref (A (own_k p1).toNatClampNeg)), .val (.ref (A (own_k p2).toNatClampNeg)), .val (.ref (A (own_k p3).toNatClampNeg)), .val (.ref b8), .val (.int (1 : Int32)), .val (.int (1 : Int32)), .val (.int (1 : Int32)), .val (.int (2 : Int32)), .val (.int (1 : Int32)), .unset] [(.ref b8)])) tgt → Steps p.tables e below (s₁.setTop (entryFrame m #[(.int p1), (.int p2), (.int p3), (.int p4)] maxLocals)) tgt := by
    intro tgt kk
    refine pre33 tgt ?_
    refine st34.trans ?_
    show Steps p.tables e below (T34.setTop (mkF m 72 #[.val (.int p1), .val (.int p2), .val (.int p3), .val (.int p4), .val (.ref (A (own_k p1).toNatClampNeg)), .val (.ref (A (own_k p2).toNatClampNeg)), .val (.ref (A (own_k p3).toNatClampNeg)), .val (.ref b8), .val (.int (1 : Int32)), .val (.int (1 : Int32)), .val (.int (1 : Int32)), .val (.int (2 : Int32)), .unset, .unset] [(.int (1 : Int32))])) _
    refine XS.istore X34.here hx rfl (hb hby at_72) rfl (l' := #[.val (.int p1), .val (.int p2), .val (.int p3), .val (.int p4), .val (.ref (A (own_k p1).toNatClampNeg)), .val (.ref (A (own_k p2).toNatClampNeg)), .val (.ref (A (own_k p3).toNatClampNeg)), .val (.ref b8), .val (.int (1 : Int32)), .val (.int (1 : Int32)), .val (.int (1 : Int32)), .val (.int (2 : Int32)), .val (.int (1 : Int32)), .unset]) rfl ?_
    show Steps p.tables e below (T34.setTop (mkF m 74 #[.val (.int p1), .val (.int p2), .val (.int p3), .val (.int p4), .val (.ref (A (own_k p1).toNatClampNeg)), .val (.ref (A (own_k p2).toNatClampNeg)), .val (.ref (A (own_k p3).toNatClampNeg)), .val (.ref b8), .val (.int (1 : Int32)), .val (.int (1 : Int32)), .val (.int (1 : Int32)), .val (.int (2 : Int32)), .val (.int (1 : Int32)), .unset] [])) _
    refine XS.aload X34.here hx rfl (hb hby at_74) rfl rfl ?_
    show Steps p.tables e below (T34.setTop (mkF m 76 #[.val (.int p1), .val (.int p2), .val (.int p3), .val (.int p4), .val (.ref (A (own_k p1).toNatClampNeg)), .val (.ref (A (own_k p2).toNatClampNeg)), .val (.ref (A (own_k p3).toNatClampNeg)), .val (.ref b8), .val (.int (1 : Int32)), .val (.int (1 : Int32)), .val (.int (1 : Int32)), .val (.int (2 : Int32)), .val (.int (1 : Int32)), .unset] [(.ref b8)])) _
    exact kk
  obtain ⟨cq39, kq39, q39a, q39b, q39c⟩ := isOf hZ rfl E_b8
  obtain ⟨_, _, ⟨T39, L39, k39, n39⟩, -, X39, ⟨Lc39, hQ39, l39, y39, z39⟩, st39⟩ := X34.virtualBack hx (y := (⟨"com/example/message_ledger/messageledger/requests/ErrorCodeList", "size", "()I"⟩ : MethodName)) (z := (⟨"com/example/message_ledger/messageledger/requests/ErrorCodeList", "size", "()I"⟩ : MethodName)) hown (mvT hZ (hw _ (List.mem_of_getElem? (i := 55) rfl))) (mvT hZ (hw _ (List.mem_of_getElem? (i := 56) rfl))) (notFace_of_selects (args := #[]) (mvT hZ (hw _ (List.mem_of_getElem? (i := 58) rfl)))) (mvT hZ (hw _ (List.mem_of_getElem? (i := 58) rfl))) (mvT hZ (hw _ (List.mem_of_getElem? (i := 57) rfl))) (by decide) (backOf (W := 0) (rmSize l Z a0 hw [] b8 ((3 : Int32)) T34.heap n0 Zs35 F_size_b8) hZ (hw _ (List.mem_of_getElem? (i := 59) rfl)) (hw _ (List.mem_of_getElem? (i := 14) rfl)) (by decide) (by decide)) q39a q39c (g := (mkF m 76 #[.val (.int p1), .val (.int p2), .val (.int p3), .val (.int p4), .val (.ref (A (own_k p1).toNatClampNeg)), .val (.ref (A (own_k p2).toNatClampNeg)), .val (.ref (A (own_k p3).toNatClampNeg)), .val (.ref b8), .val (.int (1 : Int32)), .val (.int (1 : Int32)), .val (.int (1 : Int32)), .val (.int (2 : Int32)), .val (.int (1 : Int32)), .unset] [(.ref b8)])) rfl (by rw [hml]; rfl) (Steps.refl _) (argsL := []) (rest := []) (lenOf pd___I rfl) rfl (by show 2 * 0 + _ ≤ _; exact Nat.le_of_eq rfl) (hb hby at_76) (fun _ _ => ⟨rfl, rfl, (by decide : 2 + 0 ≤ _), (by decide : 13 + 0 ≤ _)⟩)
  dsimp only [Pt.U, Pt.locs, Pt.cells, Pt.slots] at X39 l39 y39 z39 st39 hQ39
  subst l39 y39 z39
  obtain ⟨rfl, N39q, hh39⟩ := hQ39
  have N39 := Fr.app N34 N39q
  have pre40 : ∀ tgt, Steps p.tables e below (T39.setTop (mkF m 117 #[.val (.int p1), .val (.int p2), .val (.int p3), .val (.int p4), .val (.ref (A (own_k p1).toNatClampNeg)), .val (.ref (A (own_k p2).toNatClampNeg)), .val (.ref (A (own_k p3).toNatClampNeg)), .val (.ref b8), .val (.int (1 : Int32)), .val (.int (1 : Int32)), .val (.int (1 : Int32)), .val (.int (2 : Int32)), .val (.int (1 : Int32)), .val (.int (3 : Int32))] [(.int (0 : Int32)), (.ref b8)])) tgt → Steps p.tables e below (s₁.setTop (entryFrame m #[(.int p1), (.int p2), (.int p3), (.int p4)] maxLocals)) tgt := by
    intro tgt kk
    refine pre38 tgt ?_
    refine st39.trans ?_
    show Steps p.tables e below (T39.setTop (mkF m 79 #[.val (.int p1), .val (.int p2), .val (.int p3), .val (.int p4), .val (.ref (A (own_k p1).toNatClampNeg)), .val (.ref (A (own_k p2).toNatClampNeg)), .val (.ref (A (own_k p3).toNatClampNeg)), .val (.ref b8), .val (.int (1 : Int32)), .val (.int (1 : Int32)), .val (.int (1 : Int32)), .val (.int (2 : Int32)), .val (.int (1 : Int32)), .unset] [(.int (3 : Int32))])) _
    refine XS.istore X39.here hx rfl (hb hby at_79) rfl (l' := #[.val (.int p1), .val (.int p2), .val (.int p3), .val (.int p4), .val (.ref (A (own_k p1).toNatClampNeg)), .val (.ref (A (own_k p2).toNatClampNeg)), .val (.ref (A (own_k p3).toNatClampNeg)), .val (.ref b8), .val (.int (1 : Int32)), .val (.int (1 : Int32)), .val (.int (1 : Int32)), .val (.int (2 : Int32)), .val (.int (1 : Int32)), .val (.int (3 : Int32))]) rfl ?_
    show Steps p.tables e below (T39.setTop (mkF m 81 #[.val (.int p1), .val (.int p2), .val (.int p3), .val (.int p4), .val (.ref (A (own_k p1).toNatClampNeg)), .val (.ref (A (own_k p2).toNatClampNeg)), .val (.ref (A (own_k p3).toNatClampNeg)), .val (.ref b8), .val (.int (1 : Int32)), .val (.int (1 : Int32)), .val (.int (1 : Int32)), .val (.int (2 : Int32)), .val (.int (1 : Int32)), .val (.int (3 : Int32))] [])) _
    refine XS.iload X39.here hx rfl (hb hby at_81) rfl ?_
    show Steps p.tables e below (T39.setTop (mkF m 83 #[.val (.int p1), .val (.int p2), .val (.int p3), .val (.int p4), .val (.ref (A (own_k p1).toNatClampNeg)), .val (.ref (A (own_k p2).toNatClampNeg)), .val (.ref (A (own_k p3).toNatClampNeg)), .val (.ref b8), .val (.int (1 : Int32)), .val (.int (1 : Int32)), .val (.int (1 : Int32)), .val (.int (2 : Int32)), .val (.int (1 : Int32)), .val (.int (3 : Int32))] [(.int (1 : Int32))])) _
    refine XS.ifNo X39.here hx rfl (hb hby at_83) rfl (XT.i0_eq_f (by decide)) ?_
    show Steps p.tables e below (T39.setTop (mkF m 86 #[.val (.int p1), .val (.int p2), .val (.int p3), .val (.int p4), .val (.ref (A (own_k p1).toNatClampNeg)), .val (.ref (A (own_k p2).toNatClampNeg)), .val (.ref (A (own_k p3).toNatClampNeg)), .val (.ref b8), .val (.int (1 : Int32)), .val (.int (1 : Int32)), .val (.int (1 : Int32)), .val (.int (2 : Int32)), .val (.int (1 : Int32)), .val (.int (3 : Int32))] [])) _
    refine XS.iload X39.here hx rfl (hb hby at_86) rfl ?_
    show Steps p.tables e below (T39.setTop (mkF m 88 #[.val (.int p1), .val (.int p2), .val (.int p3), .val (.int p4), .val (.ref (A (own_k p1).toNatClampNeg)), .val (.ref (A (own_k p2).toNatClampNeg)), .val (.ref (A (own_k p3).toNatClampNeg)), .val (.ref b8), .val (.int (1 : Int32)), .val (.int (1 : Int32)), .val (.int (1 : Int32)), .val (.int (2 : Int32)), .val (.int (1 : Int32)), .val (.int (3 : Int32))] [(.int (1 : Int32))])) _
    refine XS.ifNo X39.here hx rfl (hb hby at_88) rfl (XT.i0_eq_f (by decide)) ?_
    show Steps p.tables e below (T39.setTop (mkF m 91 #[.val (.int p1), .val (.int p2), .val (.int p3), .val (.int p4), .val (.ref (A (own_k p1).toNatClampNeg)), .val (.ref (A (own_k p2).toNatClampNeg)), .val (.ref (A (own_k p3).toNatClampNeg)), .val (.ref b8), .val (.int (1 : Int32)), .val (.int (1 : Int32)), .val (.int (1 : Int32)), .val (.int (2 : Int32)), .val (.int (1 : Int32)), .val (.int (3 : Int32))] [])) _
    refine XS.iload X39.here hx rfl (hb hby at_91) rfl ?_
    show Steps p.tables e below (T39.setTop (mkF m 93 #[.val (.int p1), .val (.int p2), .val (.int p3), .val (.int p4), .val (.ref (A (own_k p1).toNatClampNeg)), .val (.ref (A (own_k p2).toNatClampNeg)), .val (.ref (A (own_k p3).toNatClampNeg)), .val (.ref b8), .val (.int (1 : Int32)), .val (.int (1 : Int32)), .val (.int (1 : Int32)), .val (.int (2 : Int32)), .val (.int (1 : Int32)), .val (.int (3 : Int32))] [(.int (1 : Int32))])) _
    refine XS.ifNo X39.here hx rfl (hb hby at_93) rfl (XT.i0_eq_f (by decide)) ?_
    show Steps p.tables e below (T39.setTop (mkF m 96 #[.val (.int p1), .val (.int p2), .val (.int p3), .val (.int p4), .val (.ref (A (own_k p1).toNatClampNeg)), .val (.ref (A (own_k p2).toNatClampNeg)), .val (.ref (A (own_k p3).toNatClampNeg)), .val (.ref b8), .val (.int (1 : Int32)), .val (.int (1 : Int32)), .val (.int (1 : Int32)), .val (.int (2 : Int32)), .val (.int (1 : Int32)), .val (.int (3 : Int32))] [])) _
    refine XS.iload X39.here hx rfl (hb hby at_96) rfl ?_
    show Steps p.tables e below (T39.setTop (mkF m 98 #[.val (.int p1), .val (.int p2), .val (.int p3), .val (.int p4), .val (.ref (A (own_k p1).toNatClampNeg)), .val (.ref (A (own_k p2).toNatClampNeg)), .val (.ref (A (own_k p3).toNatClampNeg)), .val (.ref b8), .val (.int (1 : Int32)), .val (.int (1 : Int32)), .val (.int (1 : Int32)), .val (.int (2 : Int32)), .val (.int (1 : Int32)), .val (.int (3 : Int32))] [(.int (1 : Int32))])) _
    refine XS.iconst X39.here hx rfl (hb hby at_98) ?_
    show Steps p.tables e below (T39.setTop (mkF m 99 #[.val (.int p1), .val (.int p2), .val (.int p3), .val (.int p4), .val (.ref (A (own_k p1).toNatClampNeg)), .val (.ref (A (own_k p2).toNatClampNeg)), .val (.ref (A (own_k p3).toNatClampNeg)), .val (.ref b8), .val (.int (1 : Int32)), .val (.int (1 : Int32)), .val (.int (1 : Int32)), .val (.int (2 : Int32)), .val (.int (1 : Int32)), .val (.int (3 : Int32))] [(.int (1 : Int32)), (.int (1 : Int32))])) _
    refine XS.icmpNo X39.here hx rfl (hb hby at_99) rfl (XT.ii_ne_f (by decide)) ?_
    show Steps p.tables e below (T39.setTop (mkF m 102 #[.val (.int p1), .val (.int p2), .val (.int p3), .val (.int p4), .val (.ref (A (own_k p1).toNatClampNeg)), .val (.ref (A (own_k p2).toNatClampNeg)), .val (.ref (A (own_k p3).toNatClampNeg)), .val (.ref b8), .val (.int (1 : Int32)), .val (.int (1 : Int32)), .val (.int (1 : Int32)), .val (.int (2 : Int32)), .val (.int (1 : Int32)), .val (.int (3 : Int32))] [])) _
    refine XS.iload X39.here hx rfl (hb hby at_102) rfl ?_
    show Steps p.tables e below (T39.setTop (mkF m 104 #[.val (.int p1), .val (.int p2), .val (.int p3), .val (.int p4), .val (.ref (A (own_k p1).toNatClampNeg)), .val (.ref (A (own_k p2).toNatClampNeg)), .val (.ref (A (own_k p3).toNatClampNeg)), .val (.ref b8), .val (.int (1 : Int32)), .val (.int (1 : Int32)), .val (.int (1 : Int32)), .val (.int (2 : Int32)), .val (.int (1 : Int32)), .val (.int (3 : Int32))] [(.int (2 : Int32))])) _
    refine XS.iconst X39.here hx rfl (hb hby at_104) ?_
    show Steps p.tables e below (T39.setTop (mkF m 105 #[.val (.int p1), .val (.int p2), .val (.int p3), .val (.int p4), .val (.ref (A (own_k p1).toNatClampNeg)), .val (.ref (A (own_k p2).toNatClampNeg)), .val (.ref (A (own_k p3).toNatClampNeg)), .val (.ref b8), .val (.int (1 : Int32)), .val (.int (1 : Int32)), .val (.int (1 : Int32)), .val (.int (2 : Int32)), .val (.int (1 : Int32)), .val (.int (3 : Int32))] [(.int (2 : Int32)), (.int (2 : Int32))])) _
    refine XS.icmpNo X39.here hx rfl (hb hby at_105) rfl (XT.ii_ne_f (by decide)) ?_
    show Steps p.tables e below (T39.setTop (mkF m 108 #[.val (.int p1), .val (.int p2), .val (.int p3), .val (.int p4), .val (.ref (A (own_k p1).toNatClampNeg)), .val (.ref (A (own_k p2).toNatClampNeg)), .val (.ref (A (own_k p3).toNatClampNeg)), .val (.ref b8), .val (.int (1 : Int32)), .val (.int (1 : Int32)), .val (.int (1 : Int32)), .val (.int (2 : Int32)), .val (.int (1 : Int32)), .val (.int (3 : Int32))] [])) _
    refine XS.iload X39.here hx rfl (hb hby at_108) rfl ?_
    show Steps p.tables e below (T39.setTop (mkF m 110 #[.val (.int p1), .val (.int p2), .val (.int p3), .val (.int p4), .val (.ref (A (own_k p1).toNatClampNeg)), .val (.ref (A (own_k p2).toNatClampNeg)), .val (.ref (A (own_k p3).toNatClampNeg)), .val (.ref b8), .val (.int (1 : Int32)), .val (.int (1 : Int32)), .val (.int (1 : Int32)), .val (.int (2 : Int32)), .val (.int (1 : Int32)), .val (.int (3 : Int32))] [(.int (3 : Int32))])) _
    refine XS.iconst X39.here hx rfl (hb hby at_110) ?_
    show Steps p.tables e below (T39.setTop (mkF m 111 #[.val (.int p1), .val (.int p2), .val (.int p3), .val (.int p4), .val (.ref (A (own_k p1).toNatClampNeg)), .val (.ref (A (own_k p2).toNatClampNeg)), .val (.ref (A (own_k p3).toNatClampNeg)), .val (.ref b8), .val (.int (1 : Int32)), .val (.int (1 : Int32)), .val (.int (1 : Int32)), .val (.int (2 : Int32)), .val (.int (1 : Int32)), .val (.int (3 : Int32))] [(.int (3 : Int32)), (.int (3 : Int32))])) _
    refine XS.icmpNo X39.here hx rfl (hb hby at_111) rfl (XT.ii_ne_f (by decide)) ?_
    show Steps p.tables e below (T39.setTop (mkF m 114 #[.val (.int p1), .val (.int p2), .val (.int p3), .val (.int p4), .val (.ref (A (own_k p1).toNatClampNeg)), .val (.ref (A (own_k p2).toNatClampNeg)), .val (.ref (A (own_k p3).toNatClampNeg)), .val (.ref b8), .val (.int (1 : Int32)), .val (.int (1 : Int32)), .val (.int (1 : Int32)), .val (.int (2 : Int32)), .val (.int (1 : Int32)), .val (.int (3 : Int32))] [])) _
    refine XS.aload X39.here hx rfl (hb hby at_114) rfl rfl ?_
    show Steps p.tables e below (T39.setTop (mkF m 116 #[.val (.int p1), .val (.int p2), .val (.int p3), .val (.int p4), .val (.ref (A (own_k p1).toNatClampNeg)), .val (.ref (A (own_k p2).toNatClampNeg)), .val (.ref (A (own_k p3).toNatClampNeg)), .val (.ref b8), .val (.int (1 : Int32)), .val (.int (1 : Int32)), .val (.int (1 : Int32)), .val (.int (2 : Int32)), .val (.int (1 : Int32)), .val (.int (3 : Int32))] [(.ref b8)])) _
    refine XS.iconst X39.here hx rfl (hb hby at_116) ?_
    show Steps p.tables e below (T39.setTop (mkF m 117 #[.val (.int p1), .val (.int p2), .val (.int p3), .val (.int p4), .val (.ref (A (own_k p1).toNatClampNeg)), .val (.ref (A (own_k p2).toNatClampNeg)), .val (.ref (A (own_k p3).toNatClampNeg)), .val (.ref b8), .val (.int (1 : Int32)), .val (.int (1 : Int32)), .val (.int (1 : Int32)), .val (.int (2 : Int32)), .val (.int (1 : Int32)), .val (.int (3 : Int32))] [(.int (0 : Int32)), (.ref b8)])) _
    exact kk
  obtain ⟨cq41, kq41, q41a, q41b, q41c⟩ := isOf hZ hh39 E_b8
  obtain ⟨_, _, ⟨T41, L41, k41, n41⟩, -, X41, ⟨Lc41, hQ41, l41, y41, z41⟩, st41⟩ := X39.virtualBack hx (y := (⟨"com/example/message_ledger/messageledger/requests/ErrorCodeList", "get", "(I)Lcom/example/message_ledger/messageledger/wire/ErrorCode;"⟩ : MethodName)) (z := (⟨"com/example/message_ledger/messageledger/requests/ErrorCodeList", "get", "(I)Lcom/example/message_ledger/messageledger/wire/ErrorCode;"⟩ : MethodName)) hown (mvT hZ (hw _ (List.mem_of_getElem? (i := 60) rfl))) (mvT hZ (hw _ (List.mem_of_getElem? (i := 61) rfl))) (notFace_of_selects (args := #[]) (mvT hZ (hw _ (List.mem_of_getElem? (i := 63) rfl)))) (mvT hZ (hw _ (List.mem_of_getElem? (i := 63) rfl))) (mvT hZ (hw _ (List.mem_of_getElem? (i := 62) rfl))) (by decide) (backOf (W := 0) (rmGet0_3 l Z a0 hw [] b8 bb16 kb16 (((3 : Int32) + (p4 &&& (7 : Int32)))) ((own_k p1)) ((own_k p2)) ((own_k p3)) aC kC A T34.heap n0 Zs35 F_ordinals_b8 F_size_b8 V_bb S_CODES V_C (own_n p4).2.2 (own_kr p1)) hZ (hw _ (List.mem_of_getElem? (i := 64) rfl)) (hw _ (List.mem_of_getElem? (i := 14) rfl)) (by decide) (by decide)) q41a q41c (g := (mkF m 117 #[.val (.int p1), .val (.int p2), .val (.int p3), .val (.int p4), .val (.ref (A (own_k p1).toNatClampNeg)), .val (.ref (A (own_k p2).toNatClampNeg)), .val (.ref (A (own_k p3).toNatClampNeg)), .val (.ref b8), .val (.int (1 : Int32)), .val (.int (1 : Int32)), .val (.int (1 : Int32)), .val (.int (2 : Int32)), .val (.int (1 : Int32)), .val (.int (3 : Int32))] [(.int (0 : Int32)), (.ref b8)])) rfl (by rw [hml]; rfl) (Steps.refl _) (argsL := [(.int (0 : Int32))]) (rest := []) (lenOf pd__I_Lcom_example_message_ledger_messageledger_wire_ErrorCode_ rfl) rfl (by show 2 * 0 + _ ≤ _; exact Nat.le_of_eq rfl) (hb hby at_117) (fun _ _ => ⟨rfl, hh39, (by decide : 2 + 0 ≤ _), (by decide : 13 + 0 ≤ _)⟩)
  dsimp only [Pt.U, Pt.locs, Pt.cells, Pt.slots] at X41 l41 y41 z41 st41 hQ41
  subst l41 y41 z41
  obtain ⟨rfl, N41q, hh41⟩ := hQ41
  have N41 := Fr.app N39 N41q
  have pre42 : ∀ tgt, Steps p.tables e below (T41.setTop (mkF m 128 #[.val (.int p1), .val (.int p2), .val (.int p3), .val (.int p4), .val (.ref (A (own_k p1).toNatClampNeg)), .val (.ref (A (own_k p2).toNatClampNeg)), .val (.ref (A (own_k p3).toNatClampNeg)), .val (.ref b8), .val (.int (1 : Int32)), .val (.int (1 : Int32)), .val (.int (1 : Int32)), .val (.int (2 : Int32)), .val (.int (1 : Int32)), .val (.int (3 : Int32))] [(.int (1 : Int32)), (.ref b8)])) tgt → Steps p.tables e below (s₁.setTop (entryFrame m #[(.int p1), (.int p2), (.int p3), (.int p4)] maxLocals)) tgt := by
    intro tgt kk
    refine pre40 tgt ?_
    refine st41.trans ?_
    show Steps p.tables e below (T41.setTop (mkF m 120 #[.val (.int p1), .val (.int p2), .val (.int p3), .val (.int p4), .val (.ref (A (own_k p1).toNatClampNeg)), .val (.ref (A (own_k p2).toNatClampNeg)), .val (.ref (A (own_k p3).toNatClampNeg)), .val (.ref b8), .val (.int (1 : Int32)), .val (.int (1 : Int32)), .val (.int (1 : Int32)), .val (.int (2 : Int32)), .val (.int (1 : Int32)), .val (.int (3 : Int32))] [(.ref (A (own_k p1).toNatClampNeg))])) _
    refine XS.aload X41.here hx rfl (hb hby at_120) rfl rfl ?_
    show Steps p.tables e below (T41.setTop (mkF m 122 #[.val (.int p1), .val (.int p2), .val (.int p3), .val (.int p4), .val (.ref (A (own_k p1).toNatClampNeg)), .val (.ref (A (own_k p2).toNatClampNeg)), .val (.ref (A (own_k p3).toNatClampNeg)), .val (.ref b8), .val (.int (1 : Int32)), .val (.int (1 : Int32)), .val (.int (1 : Int32)), .val (.int (2 : Int32)), .val (.int (1 : Int32)), .val (.int (3 : Int32))] [(.ref (A (own_k p1).toNatClampNeg)), (.ref (A (own_k p1).toNatClampNeg))])) _
    refine XT.acmpNo X41.here hx rfl (hb hby at_122) rfl rfl rfl (XT.aa_ne_f rfl) ?_
    show Steps p.tables e below (T41.setTop (mkF m 125 #[.val (.int p1), .val (.int p2), .val (.int p3), .val (.int p4), .val (.ref (A (own_k p1).toNatClampNeg)), .val (.ref (A (own_k p2).toNatClampNeg)), .val (.ref (A (own_k p3).toNatClampNeg)), .val (.ref b8), .val (.int (1 : Int32)), .val (.int (1 : Int32)), .val (.int (1 : Int32)), .val (.int (2 : Int32)), .val (.int (1 : Int32)), .val (.int (3 : Int32))] [])) _
    refine XS.aload X41.here hx rfl (hb hby at_125) rfl rfl ?_
    show Steps p.tables e below (T41.setTop (mkF m 127 #[.val (.int p1), .val (.int p2), .val (.int p3), .val (.int p4), .val (.ref (A (own_k p1).toNatClampNeg)), .val (.ref (A (own_k p2).toNatClampNeg)), .val (.ref (A (own_k p3).toNatClampNeg)), .val (.ref b8), .val (.int (1 : Int32)), .val (.int (1 : Int32)), .val (.int (1 : Int32)), .val (.int (2 : Int32)), .val (.int (1 : Int32)), .val (.int (3 : Int32))] [(.ref b8)])) _
    refine XS.iconst X41.here hx rfl (hb hby at_127) ?_
    show Steps p.tables e below (T41.setTop (mkF m 128 #[.val (.int p1), .val (.int p2), .val (.int p3), .val (.int p4), .val (.ref (A (own_k p1).toNatClampNeg)), .val (.ref (A (own_k p2).toNatClampNeg)), .val (.ref (A (own_k p3).toNatClampNeg)), .val (.ref b8), .val (.int (1 : Int32)), .val (.int (1 : Int32)), .val (.int (1 : Int32)), .val (.int (2 : Int32)), .val (.int (1 : Int32)), .val (.int (3 : Int32))] [(.int (1 : Int32)), (.ref b8)])) _
    exact kk
  obtain ⟨cq43, kq43, q43a, q43b, q43c⟩ := isOf hZ hh41 E_b8
  obtain ⟨_, _, ⟨T43, L43, k43, n43⟩, -, X43, ⟨Lc43, hQ43, l43, y43, z43⟩, st43⟩ := X41.virtualBack hx (y := (⟨"com/example/message_ledger/messageledger/requests/ErrorCodeList", "get", "(I)Lcom/example/message_ledger/messageledger/wire/ErrorCode;"⟩ : MethodName)) (z := (⟨"com/example/message_ledger/messageledger/requests/ErrorCodeList", "get", "(I)Lcom/example/message_ledger/messageledger/wire/ErrorCode;"⟩ : MethodName)) hown (mvT hZ (hw _ (List.mem_of_getElem? (i := 60) rfl))) (mvT hZ (hw _ (List.mem_of_getElem? (i := 61) rfl))) (notFace_of_selects (args := #[]) (mvT hZ (hw _ (List.mem_of_getElem? (i := 63) rfl)))) (mvT hZ (hw _ (List.mem_of_getElem? (i := 63) rfl))) (mvT hZ (hw _ (List.mem_of_getElem? (i := 62) rfl))) (by decide) (backOf (W := 0) (rmGet1_3 l Z a0 hw [] b8 bb16 kb16 (((3 : Int32) + (p4 &&& (7 : Int32)))) ((own_k p1)) ((own_k p2)) ((own_k p3)) aC kC A T34.heap n0 Zs35 F_ordinals_b8 F_size_b8 V_bb S_CODES V_C (own_n p4).2.2 (own_kr p2)) hZ (hw _ (List.mem_of_getElem? (i := 64) rfl)) (hw _ (List.mem_of_getElem? (i := 14) rfl)) (by decide) (by decide)) q43a q43c (g := (mkF m 128 #[.val (.int p1), .val (.int p2), .val (.int p3), .val (.int p4), .val (.ref (A (own_k p1).toNatClampNeg)), .val (.ref (A (own_k p2).toNatClampNeg)), .val (.ref (A (own_k p3).toNatClampNeg)), .val (.ref b8), .val (.int (1 : Int32)), .val (.int (1 : Int32)), .val (.int (1 : Int32)), .val (.int (2 : Int32)), .val (.int (1 : Int32)), .val (.int (3 : Int32))] [(.int (1 : Int32)), (.ref b8)])) rfl (by rw [hml]; rfl) (Steps.refl _) (argsL := [(.int (1 : Int32))]) (rest := []) (lenOf pd__I_Lcom_example_message_ledger_messageledger_wire_ErrorCode_ rfl) rfl (by show 2 * 0 + _ ≤ _; exact Nat.le_of_eq rfl) (hb hby at_128) (fun _ _ => ⟨rfl, hh41, (by decide : 2 + 0 ≤ _), (by decide : 13 + 0 ≤ _)⟩)
  dsimp only [Pt.U, Pt.locs, Pt.cells, Pt.slots] at X43 l43 y43 z43 st43 hQ43
  subst l43 y43 z43
  obtain ⟨rfl, N43q, hh43⟩ := hQ43
  have N43 := Fr.app N41 N43q
  have pre44 : ∀ tgt, Steps p.tables e below (T43.setTop (mkF m 139 #[.val (.int p1), .val (.int p2), .val (.int p3), .val (.int p4), .val (.ref (A (own_k p1).toNatClampNeg)), .val (.ref (A (own_k p2).toNatClampNeg)), .val (.ref (A (own_k p3).toNatClampNeg)), .val (.ref b8), .val (.int (1 : Int32)), .val (.int (1 : Int32)), .val (.int (1 : Int32)), .val (.int (2 : Int32)), .val (.int (1 : Int32)), .val (.int (3 : Int32))] [(.int (2 : Int32)), (.ref b8)])) tgt → Steps p.tables e below (s₁.setTop (entryFrame m #[(.int p1), (.int p2), (.int p3), (.int p4)] maxLocals)) tgt := by
    intro tgt kk
    refine pre42 tgt ?_
    refine st43.trans ?_
    show Steps p.tables e below (T43.setTop (mkF m 131 #[.val (.int p1), .val (.int p2), .val (.int p3), .val (.int p4), .val (.ref (A (own_k p1).toNatClampNeg)), .val (.ref (A (own_k p2).toNatClampNeg)), .val (.ref (A (own_k p3).toNatClampNeg)), .val (.ref b8), .val (.int (1 : Int32)), .val (.int (1 : Int32)), .val (.int (1 : Int32)), .val (.int (2 : Int32)), .val (.int (1 : Int32)), .val (.int (3 : Int32))] [(.ref (A (own_k p2).toNatClampNeg))])) _
    refine XS.aload X43.here hx rfl (hb hby at_131) rfl rfl ?_
    show Steps p.tables e below (T43.setTop (mkF m 133 #[.val (.int p1), .val (.int p2), .val (.int p3), .val (.int p4), .val (.ref (A (own_k p1).toNatClampNeg)), .val (.ref (A (own_k p2).toNatClampNeg)), .val (.ref (A (own_k p3).toNatClampNeg)), .val (.ref b8), .val (.int (1 : Int32)), .val (.int (1 : Int32)), .val (.int (1 : Int32)), .val (.int (2 : Int32)), .val (.int (1 : Int32)), .val (.int (3 : Int32))] [(.ref (A (own_k p2).toNatClampNeg)), (.ref (A (own_k p2).toNatClampNeg))])) _
    refine XT.acmpNo X43.here hx rfl (hb hby at_133) rfl rfl rfl (XT.aa_ne_f rfl) ?_
    show Steps p.tables e below (T43.setTop (mkF m 136 #[.val (.int p1), .val (.int p2), .val (.int p3), .val (.int p4), .val (.ref (A (own_k p1).toNatClampNeg)), .val (.ref (A (own_k p2).toNatClampNeg)), .val (.ref (A (own_k p3).toNatClampNeg)), .val (.ref b8), .val (.int (1 : Int32)), .val (.int (1 : Int32)), .val (.int (1 : Int32)), .val (.int (2 : Int32)), .val (.int (1 : Int32)), .val (.int (3 : Int32))] [])) _
    refine XS.aload X43.here hx rfl (hb hby at_136) rfl rfl ?_
    show Steps p.tables e below (T43.setTop (mkF m 138 #[.val (.int p1), .val (.int p2), .val (.int p3), .val (.int p4), .val (.ref (A (own_k p1).toNatClampNeg)), .val (.ref (A (own_k p2).toNatClampNeg)), .val (.ref (A (own_k p3).toNatClampNeg)), .val (.ref b8), .val (.int (1 : Int32)), .val (.int (1 : Int32)), .val (.int (1 : Int32)), .val (.int (2 : Int32)), .val (.int (1 : Int32)), .val (.int (3 : Int32))] [(.ref b8)])) _
    refine XS.iconst X43.here hx rfl (hb hby at_138) ?_
    show Steps p.tables e below (T43.setTop (mkF m 139 #[.val (.int p1), .val (.int p2), .val (.int p3), .val (.int p4), .val (.ref (A (own_k p1).toNatClampNeg)), .val (.ref (A (own_k p2).toNatClampNeg)), .val (.ref (A (own_k p3).toNatClampNeg)), .val (.ref b8), .val (.int (1 : Int32)), .val (.int (1 : Int32)), .val (.int (1 : Int32)), .val (.int (2 : Int32)), .val (.int (1 : Int32)), .val (.int (3 : Int32))] [(.int (2 : Int32)), (.ref b8)])) _
    exact kk
  obtain ⟨cq45, kq45, q45a, q45b, q45c⟩ := isOf hZ hh43 E_b8
  obtain ⟨_, _, ⟨T45, L45, k45, n45⟩, -, X45, ⟨Lc45, hQ45, l45, y45, z45⟩, st45⟩ := X43.virtualBack hx (y := (⟨"com/example/message_ledger/messageledger/requests/ErrorCodeList", "get", "(I)Lcom/example/message_ledger/messageledger/wire/ErrorCode;"⟩ : MethodName)) (z := (⟨"com/example/message_ledger/messageledger/requests/ErrorCodeList", "get", "(I)Lcom/example/message_ledger/messageledger/wire/ErrorCode;"⟩ : MethodName)) hown (mvT hZ (hw _ (List.mem_of_getElem? (i := 60) rfl))) (mvT hZ (hw _ (List.mem_of_getElem? (i := 61) rfl))) (notFace_of_selects (args := #[]) (mvT hZ (hw _ (List.mem_of_getElem? (i := 63) rfl)))) (mvT hZ (hw _ (List.mem_of_getElem? (i := 63) rfl))) (mvT hZ (hw _ (List.mem_of_getElem? (i := 62) rfl))) (by decide) (backOf (W := 0) (rmGet2_3 l Z a0 hw [] b8 bb16 kb16 (((3 : Int32) + (p4 &&& (7 : Int32)))) ((own_k p1)) ((own_k p2)) ((own_k p3)) aC kC A T34.heap n0 Zs35 F_ordinals_b8 F_size_b8 V_bb S_CODES V_C (own_n p4).2.2 (own_kr p3)) hZ (hw _ (List.mem_of_getElem? (i := 64) rfl)) (hw _ (List.mem_of_getElem? (i := 14) rfl)) (by decide) (by decide)) q45a q45c (g := (mkF m 139 #[.val (.int p1), .val (.int p2), .val (.int p3), .val (.int p4), .val (.ref (A (own_k p1).toNatClampNeg)), .val (.ref (A (own_k p2).toNatClampNeg)), .val (.ref (A (own_k p3).toNatClampNeg)), .val (.ref b8), .val (.int (1 : Int32)), .val (.int (1 : Int32)), .val (.int (1 : Int32)), .val (.int (2 : Int32)), .val (.int (1 : Int32)), .val (.int (3 : Int32))] [(.int (2 : Int32)), (.ref b8)])) rfl (by rw [hml]; rfl) (Steps.refl _) (argsL := [(.int (2 : Int32))]) (rest := []) (lenOf pd__I_Lcom_example_message_ledger_messageledger_wire_ErrorCode_ rfl) rfl (by show 2 * 0 + _ ≤ _; exact Nat.le_of_eq rfl) (hb hby at_139) (fun _ _ => ⟨rfl, hh43, (by decide : 2 + 0 ≤ _), (by decide : 13 + 0 ≤ _)⟩)
  dsimp only [Pt.U, Pt.locs, Pt.cells, Pt.slots] at X45 l45 y45 z45 st45 hQ45
  subst l45 y45 z45
  obtain ⟨rfl, N45q, hh45⟩ := hQ45
  have N45 := Fr.app N43 N45q
  obtain ⟨fs, hr, hrun, hended, hW, hsame⟩ := X45.leave (v := some (.int (1 : Int32))) (fun h => by rw [Bd.returns] at h; cases h)
  refine ⟨_, _, pre44 _ ?_, hrun, hended, _, _, rfl, ?_, ⟨_, rfl⟩, hW, hsame.mono (by decide) (by decide)⟩
  · skip
    refine st45.trans ?_
    show Steps p.tables e below (T45.setTop (mkF m 142 #[.val (.int p1), .val (.int p2), .val (.int p3), .val (.int p4), .val (.ref (A (own_k p1).toNatClampNeg)), .val (.ref (A (own_k p2).toNatClampNeg)), .val (.ref (A (own_k p3).toNatClampNeg)), .val (.ref b8), .val (.int (1 : Int32)), .val (.int (1 : Int32)), .val (.int (1 : Int32)), .val (.int (2 : Int32)), .val (.int (1 : Int32)), .val (.int (3 : Int32))] [(.ref (A (own_k p3).toNatClampNeg))])) _
    refine XS.aload X45.here hx rfl (hb hby at_142) rfl rfl ?_
    show Steps p.tables e below (T45.setTop (mkF m 144 #[.val (.int p1), .val (.int p2), .val (.int p3), .val (.int p4), .val (.ref (A (own_k p1).toNatClampNeg)), .val (.ref (A (own_k p2).toNatClampNeg)), .val (.ref (A (own_k p3).toNatClampNeg)), .val (.ref b8), .val (.int (1 : Int32)), .val (.int (1 : Int32)), .val (.int (1 : Int32)), .val (.int (2 : Int32)), .val (.int (1 : Int32)), .val (.int (3 : Int32))] [(.ref (A (own_k p3).toNatClampNeg)), (.ref (A (own_k p3).toNatClampNeg))])) _
    refine XT.acmpNo X45.here hx rfl (hb hby at_144) rfl rfl rfl (XT.aa_ne_f rfl) ?_
    show Steps p.tables e below (T45.setTop (mkF m 147 #[.val (.int p1), .val (.int p2), .val (.int p3), .val (.int p4), .val (.ref (A (own_k p1).toNatClampNeg)), .val (.ref (A (own_k p2).toNatClampNeg)), .val (.ref (A (own_k p3).toNatClampNeg)), .val (.ref b8), .val (.int (1 : Int32)), .val (.int (1 : Int32)), .val (.int (1 : Int32)), .val (.int (2 : Int32)), .val (.int (1 : Int32)), .val (.int (3 : Int32))] [])) _
    refine XS.iconst X45.here hx rfl (hb hby at_147) ?_
    show Steps p.tables e below (T45.setTop (mkF m 148 #[.val (.int p1), .val (.int p2), .val (.int p3), .val (.int p4), .val (.ref (A (own_k p1).toNatClampNeg)), .val (.ref (A (own_k p2).toNatClampNeg)), .val (.ref (A (own_k p3).toNatClampNeg)), .val (.ref b8), .val (.int (1 : Int32)), .val (.int (1 : Int32)), .val (.int (1 : Int32)), .val (.int (2 : Int32)), .val (.int (1 : Int32)), .val (.int (3 : Int32))] [(.int (1 : Int32))])) _
    refine XS.goto X45.here hx rfl (pc0 := 148) (pc' := 152) rfl (hb hby at_148) (by decide) (by decide) ?_
    show Steps p.tables e below (T45.setTop (mkF m 152 #[.val (.int p1), .val (.int p2), .val (.int p3), .val (.int p4), .val (.ref (A (own_k p1).toNatClampNeg)), .val (.ref (A (own_k p2).toNatClampNeg)), .val (.ref (A (own_k p3).toNatClampNeg)), .val (.ref b8), .val (.int (1 : Int32)), .val (.int (1 : Int32)), .val (.int (1 : Int32)), .val (.int (2 : Int32)), .val (.int (1 : Int32)), .val (.int (3 : Int32))] [(.int (1 : Int32))])) _
    exact retN X45 hx (t := .boolean) Bd.returns (by simp) (hb hby at_152) hr
  · show Q0 Z p1 p2 p3 p4 aC kC A h0 n0 _ T45.heap _
    rw [hh45]
    exact ⟨rfl, N45⟩
set_option maxRecDepth 65536 in
set_option maxHeartbeats 40000000 in
theorem comes_1 {Post : Tables → Env → Array Value → State → Outcome → State → Prop} (hpost : ∀ tb e args s v u, (limb_1_1.after args s (.returned v) u = true ∧ limb_1_2.after args s (.returned v) u = true ∧ True) → FrameEnd s (.returned v) u (Jvm.fieldLocs frame_1_writes args s ++ Jvm.arrayLocs frame_1_arrays args s ++ Jvm.staticLocs frame_1_statics s) 16 128 → Post tb e args s (.returned v) u) :
    ArmFor flags0 classFile x code maxLocals ret World_1 tables_1 room_1 Calls_1 rest_1 Pre_1 Post := by
  intro l hfl _ _ p e ha hc hk s m args below hf hA hF happ hP
  obtain ⟨hcalls, hrest, hpre⟩ := hP
  obtain ⟨-, -, -, hnamed, -, -, -, hat⟩ := (Spec.applies_iff hf).mp happ
  obtain ⟨hg, hn⟩ := and_e (Cond.before_iff.mp (show (Jvm.Cond.and given_1 narrow_1).before args s = true from hpre))
  obtain ⟨hcount, g0⟩ := and_e hg
  obtain ⟨ga0, g1⟩ := and_e g0
  obtain ⟨ga1, g2⟩ := and_e g1
  obtain ⟨ga2, g3⟩ := and_e g2
  have ga3 := g3
  obtain ⟨w0, w1, w2, w3, rfl⟩ : ∃ w0 w1 w2 w3 : Value, args = #[w0, w1, w2, w3] := by
    have hs : args.size = 4 := by simpa [Cond.value, given_1] using hcount
    obtain ⟨L⟩ := args
    match L, hs with
    | [w0, w1, w2, w3], _ => exact ⟨w0, w1, w2, w3, rfl⟩
  have hw := fun d (hd : d ∈ tables_1) => atoms_spec (ws := Jvm.Cond.code x code maxLocals ret :: tables_1) hat d (List.mem_cons_of_mem _ hd)
  have hfit : Fit s := fun {y c} hc i hi => by
    obtain ⟨ha, rfl⟩ := Array.getElem?_eq_some_iff.mp hc
    have q := List.all_eq_true.mp ((Array.all_eq_true_iff_forall_mem.mp hF) _ (Array.getElem_mem ha)) i (List.mem_range.mpr hi)
    simpa [Array.getElem?_eq_getElem hi] using q
  obtain ⟨i0, ei0⟩ := is_v ga0
  obtain rfl : w0 = (.int i0) := Option.some.inj ei0
  obtain ⟨i1, ei1⟩ := is_v ga1
  obtain rfl : w1 = (.int i1) := Option.some.inj ei1
  obtain ⟨i2, ei2⟩ := is_v ga2
  obtain rfl : w2 = (.int i2) := Option.some.inj ei2
  obtain ⟨i3, ei3⟩ := is_v ga3
  obtain rfl : w3 = (.int i3) := Option.some.inj ei3
  obtain ⟨hn_0, hr_0⟩ := and_e hn
  obtain ⟨hn_1, hr_1⟩ := and_e hr_0
  obtain ⟨hn_2, hr_2⟩ := and_e hr_1
  obtain ⟨hn_3, hr_3⟩ := and_e hr_2
  obtain ⟨hn_4, hr_4⟩ := and_e hr_3
  obtain ⟨hn_5, hr_5⟩ := and_e hr_4
  obtain ⟨hn_6, hr_6⟩ := and_e hr_5
  obtain ⟨hn_7, hr_7⟩ := and_e hr_6
  obtain ⟨hn_8, hr_8⟩ := and_e hr_7
  obtain ⟨hn_9, hr_9⟩ := and_e hr_8
  obtain ⟨hn_10, hr_10⟩ := and_e hr_9
  obtain ⟨hn_11, hr_11⟩ := and_e hr_10
  obtain ⟨hn_12, hr_12⟩ := and_e hr_11
  obtain ⟨hn_13, hr_13⟩ := and_e hr_12
  obtain ⟨hn_14, hr_14⟩ := and_e hr_13
  obtain ⟨hn_15, hr_15⟩ := and_e hr_14
  obtain ⟨hn_16, hr_16⟩ := and_e hr_15
  obtain ⟨hn_17, hr_17⟩ := and_e hr_16
  obtain ⟨hn_18, hr_18⟩ := and_e hr_17
  obtain ⟨hn_19, hr_19⟩ := and_e hr_18
  obtain ⟨hn_20, hr_20⟩ := and_e hr_19
  obtain ⟨hn_21, hr_21⟩ := and_e hr_20
  obtain ⟨hn_22, hr_22⟩ := and_e hr_21
  obtain ⟨hn_23, hr_23⟩ := and_e hr_22
  obtain ⟨hn_24, hr_24⟩ := and_e hr_23
  obtain ⟨hn_25, hr_25⟩ := and_e hr_24
  obtain ⟨hn_26, hr_26⟩ := and_e hr_25
  obtain ⟨hn_27, hr_27⟩ := and_e hr_26
  obtain ⟨hn_28, hr_28⟩ := and_e hr_27
  obtain ⟨hn_29, hr_29⟩ := and_e hr_28
  obtain ⟨hn_30, hr_30⟩ := and_e hr_29
  obtain ⟨hn_31, hr_31⟩ := and_e hr_30
  obtain ⟨hn_32, hr_32⟩ := and_e hr_31
  obtain ⟨hn_33, hr_33⟩ := and_e hr_32
  obtain ⟨hn_34, hr_34⟩ := and_e hr_33
  obtain ⟨hn_35, hr_35⟩ := and_e hr_34
  obtain ⟨hn_36, hr_36⟩ := and_e hr_35
  obtain ⟨hn_37, hr_37⟩ := and_e hr_36
  obtain ⟨hn_38, hr_38⟩ := and_e hr_37
  obtain ⟨hn_39, hr_39⟩ := and_e hr_38
  obtain ⟨hn_40, hr_40⟩ := and_e hr_39
  obtain ⟨hn_41, hr_41⟩ := and_e hr_40
  obtain ⟨hn_42, hr_42⟩ := and_e hr_41
  obtain ⟨hn_43, hr_43⟩ := and_e hr_42
  obtain ⟨hn_44, hr_44⟩ := and_e hr_43
  obtain ⟨hn_45, hr_45⟩ := and_e hr_44
  obtain ⟨hn_46, hr_46⟩ := and_e hr_45
  obtain ⟨hn_47, hr_47⟩ := and_e hr_46
  obtain ⟨hn_48, hr_48⟩ := and_e hr_47
  obtain ⟨hn_49, hr_49⟩ := and_e hr_48
  obtain ⟨hn_50, hr_50⟩ := and_e hr_49
  obtain ⟨hn_51, hr_51⟩ := and_e hr_50
  obtain ⟨hn_52, hr_52⟩ := and_e hr_51
  obtain ⟨hn_53, hr_53⟩ := and_e hr_52
  obtain ⟨hn_54, hr_54⟩ := and_e hr_53
  obtain ⟨hn_55, hr_55⟩ := and_e hr_54
  obtain ⟨hn_56, hr_56⟩ := and_e hr_55
  obtain ⟨hn_57, hr_57⟩ := and_e hr_56
  obtain ⟨a_UNKNOWN, ev_UNKNOWN⟩ := exa_v hn_0
  have E_UNKNOWN : Exa s s.heap a_UNKNOWN "com/example/message_ledger/messageledger/wire/ErrorCode" := Exa.start ev_UNKNOWN hn_0
  have S_UNKNOWN : Sta s s.heap "com/example/message_ledger/messageledger/wire/ErrorCode" "UNKNOWN" "Lcom/example/message_ledger/messageledger/wire/ErrorCode;" (.ref a_UNKNOWN) := Sta.start ev_UNKNOWN (Or.inr ⟨(hw _ (List.mem_of_getElem? (i := 6) rfl)), (hw _ (List.mem_of_getElem? (i := 7) rfl))⟩)
  obtain ⟨a_CORRUPT_MESSAGE, ev_CORRUPT_MESSAGE⟩ := exa_v hn_1
  have E_CORRUPT_MESSAGE : Exa s s.heap a_CORRUPT_MESSAGE "com/example/message_ledger/messageledger/wire/ErrorCode" := Exa.start ev_CORRUPT_MESSAGE hn_1
  have S_CORRUPT_MESSAGE : Sta s s.heap "com/example/message_ledger/messageledger/wire/ErrorCode" "CORRUPT_MESSAGE" "Lcom/example/message_ledger/messageledger/wire/ErrorCode;" (.ref a_CORRUPT_MESSAGE) := Sta.start ev_CORRUPT_MESSAGE (Or.inr ⟨(hw _ (List.mem_of_getElem? (i := 6) rfl)), (hw _ (List.mem_of_getElem? (i := 9) rfl))⟩)
  obtain ⟨a_OFFSET_OUT_OF_RANGE, ev_OFFSET_OUT_OF_RANGE⟩ := exa_v hn_2
  have E_OFFSET_OUT_OF_RANGE : Exa s s.heap a_OFFSET_OUT_OF_RANGE "com/example/message_ledger/messageledger/wire/ErrorCode" := Exa.start ev_OFFSET_OUT_OF_RANGE hn_2
  have S_OFFSET_OUT_OF_RANGE : Sta s s.heap "com/example/message_ledger/messageledger/wire/ErrorCode" "OFFSET_OUT_OF_RANGE" "Lcom/example/message_ledger/messageledger/wire/ErrorCode;" (.ref a_OFFSET_OUT_OF_RANGE) := Sta.start ev_OFFSET_OUT_OF_RANGE (Or.inr ⟨(hw _ (List.mem_of_getElem? (i := 6) rfl)), (hw _ (List.mem_of_getElem? (i := 11) rfl))⟩)
  obtain ⟨a_CODES, ev_CODES⟩ := arr_v hn_6
  obtain ⟨c_CODES, A_CODES⟩ := Arr.start ev_CODES hn_6
  have S_CODES : Sta s s.heap "com/example/message_ledger/messageledger/requests/ErrorCodeList" "CODES" "[Lcom/example/message_ledger/messageledger/wire/ErrorCode;" (.ref a_CODES) := Sta.start ev_CODES (Or.inr ⟨(hw _ (List.mem_of_getElem? (i := 14) rfl)), (hw _ (List.mem_of_getElem? (i := 74) rfl))⟩)
  obtain ⟨a_ILLEGAL_GENERATION, ev_ILLEGAL_GENERATION⟩ := exa_v hn_11
  have E_ILLEGAL_GENERATION : Exa s s.heap a_ILLEGAL_GENERATION "com/example/message_ledger/messageledger/wire/ErrorCode" := Exa.start ev_ILLEGAL_GENERATION hn_11
  have S_ILLEGAL_GENERATION : Sta s s.heap "com/example/message_ledger/messageledger/wire/ErrorCode" "ILLEGAL_GENERATION" "Lcom/example/message_ledger/messageledger/wire/ErrorCode;" (.ref a_ILLEGAL_GENERATION) := Sta.start ev_ILLEGAL_GENERATION (Or.inr ⟨(hw _ (List.mem_of_getElem? (i := 6) rfl)), (hw _ (List.mem_of_getElem? (i := 76) rfl))⟩)
  obtain ⟨a_UNKNOWN_TOPIC_OR_PARTITION, ev_UNKNOWN_TOPIC_OR_PARTITION⟩ := exa_v hn_12
  have E_UNKNOWN_TOPIC_OR_PARTITION : Exa s s.heap a_UNKNOWN_TOPIC_OR_PARTITION "com/example/message_ledger/messageledger/wire/ErrorCode" := Exa.start ev_UNKNOWN_TOPIC_OR_PARTITION hn_12
  have S_UNKNOWN_TOPIC_OR_PARTITION : Sta s s.heap "com/example/message_ledger/messageledger/wire/ErrorCode" "UNKNOWN_TOPIC_OR_PARTITION" "Lcom/example/message_ledger/messageledger/wire/ErrorCode;" (.ref a_UNKNOWN_TOPIC_OR_PARTITION) := Sta.start ev_UNKNOWN_TOPIC_OR_PARTITION (Or.inr ⟨(hw _ (List.mem_of_getElem? (i := 6) rfl)), (hw _ (List.mem_of_getElem? (i := 78) rfl))⟩)
  obtain ⟨a_OFFSET_METADATA_TOO_LARGE, ev_OFFSET_METADATA_TOO_LARGE⟩ := exa_v hn_17
  have E_OFFSET_METADATA_TOO_LARGE : Exa s s.heap a_OFFSET_METADATA_TOO_LARGE "com/example/message_ledger/messageledger/wire/ErrorCode" := Exa.start ev_OFFSET_METADATA_TOO_LARGE hn_17
  have S_OFFSET_METADATA_TOO_LARGE : Sta s s.heap "com/example/message_ledger/messageledger/wire/ErrorCode" "OFFSET_METADATA_TOO_LARGE" "Lcom/example/message_ledger/messageledger/wire/ErrorCode;" (.ref a_OFFSET_METADATA_TOO_LARGE) := Sta.start ev_OFFSET_METADATA_TOO_LARGE (Or.inr ⟨(hw _ (List.mem_of_getElem? (i := 6) rfl)), (hw _ (List.mem_of_getElem? (i := 80) rfl))⟩)
  obtain ⟨a_NOT_LEADER_FOR_PARTITION, ev_NOT_LEADER_FOR_PARTITION⟩ := exa_v hn_20
  have E_NOT_LEADER_FOR_PARTITION : Exa s s.heap a_NOT_LEADER_FOR_PARTITION "com/example/message_ledger/messageledger/wire/ErrorCode" := Exa.start ev_NOT_LEADER_FOR_PARTITION hn_20
  have S_NOT_LEADER_FOR_PARTITION : Sta s s.heap "com/example/message_ledger/messageledger/wire/ErrorCode" "NOT_LEADER_FOR_PARTITION" "Lcom/example/message_ledger/messageledger/wire/ErrorCode;" (.ref a_NOT_LEADER_FOR_PARTITION) := Sta.start ev_NOT_LEADER_FOR_PARTITION (Or.inr ⟨(hw _ (List.mem_of_getElem? (i := 6) rfl)), (hw _ (List.mem_of_getElem? (i := 82) rfl))⟩)
  obtain ⟨a_REBALANCE_IN_PROGRESS, ev_REBALANCE_IN_PROGRESS⟩ := exa_v hn_21
  have E_REBALANCE_IN_PROGRESS : Exa s s.heap a_REBALANCE_IN_PROGRESS "com/example/message_ledger/messageledger/wire/ErrorCode" := Exa.start ev_REBALANCE_IN_PROGRESS hn_21
  have S_REBALANCE_IN_PROGRESS : Sta s s.heap "com/example/message_ledger/messageledger/wire/ErrorCode" "REBALANCE_IN_PROGRESS" "Lcom/example/message_ledger/messageledger/wire/ErrorCode;" (.ref a_REBALANCE_IN_PROGRESS) := Sta.start ev_REBALANCE_IN_PROGRESS (Or.inr ⟨(hw _ (List.mem_of_getElem? (i := 6) rfl)), (hw _ (List.mem_of_getElem? (i := 84) rfl))⟩)
  obtain ⟨a_NONE, ev_NONE⟩ := exa_v hn_26
  have E_NONE : Exa s s.heap a_NONE "com/example/message_ledger/messageledger/wire/ErrorCode" := Exa.start ev_NONE hn_26
  have S_NONE : Sta s s.heap "com/example/message_ledger/messageledger/wire/ErrorCode" "NONE" "Lcom/example/message_ledger/messageledger/wire/ErrorCode;" (.ref a_NONE) := Sta.start ev_NONE (Or.inr ⟨(hw _ (List.mem_of_getElem? (i := 6) rfl)), (hw _ (List.mem_of_getElem? (i := 86) rfl))⟩)
  obtain ⟨a_MESSAGE_TOO_LARGE, ev_MESSAGE_TOO_LARGE⟩ := exa_v hn_27
  have E_MESSAGE_TOO_LARGE : Exa s s.heap a_MESSAGE_TOO_LARGE "com/example/message_ledger/messageledger/wire/ErrorCode" := Exa.start ev_MESSAGE_TOO_LARGE hn_27
  have S_MESSAGE_TOO_LARGE : Sta s s.heap "com/example/message_ledger/messageledger/wire/ErrorCode" "MESSAGE_TOO_LARGE" "Lcom/example/message_ledger/messageledger/wire/ErrorCode;" (.ref a_MESSAGE_TOO_LARGE) := Sta.start ev_MESSAGE_TOO_LARGE (Or.inr ⟨(hw _ (List.mem_of_getElem? (i := 6) rfl)), (hw _ (List.mem_of_getElem? (i := 88) rfl))⟩)
  obtain ⟨a_INVALID_FETCH_SIZE, ev_INVALID_FETCH_SIZE⟩ := exa_v hn_32
  have E_INVALID_FETCH_SIZE : Exa s s.heap a_INVALID_FETCH_SIZE "com/example/message_ledger/messageledger/wire/ErrorCode" := Exa.start ev_INVALID_FETCH_SIZE hn_32
  have S_INVALID_FETCH_SIZE : Sta s s.heap "com/example/message_ledger/messageledger/wire/ErrorCode" "INVALID_FETCH_SIZE" "Lcom/example/message_ledger/messageledger/wire/ErrorCode;" (.ref a_INVALID_FETCH_SIZE) := Sta.start ev_INVALID_FETCH_SIZE (Or.inr ⟨(hw _ (List.mem_of_getElem? (i := 6) rfl)), (hw _ (List.mem_of_getElem? (i := 90) rfl))⟩)
  obtain ⟨a_INVALID_SESSION_TIMEOUT, ev_INVALID_SESSION_TIMEOUT⟩ := exa_v hn_33
  have E_INVALID_SESSION_TIMEOUT : Exa s s.heap a_INVALID_SESSION_TIMEOUT "com/example/message_ledger/messageledger/wire/ErrorCode" := Exa.start ev_INVALID_SESSION_TIMEOUT hn_33
  have S_INVALID_SESSION_TIMEOUT : Sta s s.heap "com/example/message_ledger/messageledger/wire/ErrorCode" "INVALID_SESSION_TIMEOUT" "Lcom/example/message_ledger/messageledger/wire/ErrorCode;" (.ref a_INVALID_SESSION_TIMEOUT) := Sta.start ev_INVALID_SESSION_TIMEOUT (Or.inr ⟨(hw _ (List.mem_of_getElem? (i := 6) rfl)), (hw _ (List.mem_of_getElem? (i := 92) rfl))⟩)
  obtain ⟨a_INCONSISTENT_GROUP_PROTOCOL, ev_INCONSISTENT_GROUP_PROTOCOL⟩ := exa_v hn_38
  have E_INCONSISTENT_GROUP_PROTOCOL : Exa s s.heap a_INCONSISTENT_GROUP_PROTOCOL "com/example/message_ledger/messageledger/wire/ErrorCode" := Exa.start ev_INCONSISTENT_GROUP_PROTOCOL hn_38
  have S_INCONSISTENT_GROUP_PROTOCOL : Sta s s.heap "com/example/message_ledger/messageledger/wire/ErrorCode" "INCONSISTENT_GROUP_PROTOCOL" "Lcom/example/message_ledger/messageledger/wire/ErrorCode;" (.ref a_INCONSISTENT_GROUP_PROTOCOL) := Sta.start ev_INCONSISTENT_GROUP_PROTOCOL (Or.inr ⟨(hw _ (List.mem_of_getElem? (i := 6) rfl)), (hw _ (List.mem_of_getElem? (i := 94) rfl))⟩)
  obtain ⟨a_UNKNOWN_MEMBER_ID, ev_UNKNOWN_MEMBER_ID⟩ := exa_v hn_39
  have E_UNKNOWN_MEMBER_ID : Exa s s.heap a_UNKNOWN_MEMBER_ID "com/example/message_ledger/messageledger/wire/ErrorCode" := Exa.start ev_UNKNOWN_MEMBER_ID hn_39
  have S_UNKNOWN_MEMBER_ID : Sta s s.heap "com/example/message_ledger/messageledger/wire/ErrorCode" "UNKNOWN_MEMBER_ID" "Lcom/example/message_ledger/messageledger/wire/ErrorCode;" (.ref a_UNKNOWN_MEMBER_ID) := Sta.start ev_UNKNOWN_MEMBER_ID (Or.inr ⟨(hw _ (List.mem_of_getElem? (i := 6) rfl)), (hw _ (List.mem_of_getElem? (i := 96) rfl))⟩)
  obtain ⟨a_INVALID_REQUIRED_ACKS, ev_INVALID_REQUIRED_ACKS⟩ := exa_v hn_44
  have E_INVALID_REQUIRED_ACKS : Exa s s.heap a_INVALID_REQUIRED_ACKS "com/example/message_ledger/messageledger/wire/ErrorCode" := Exa.start ev_INVALID_REQUIRED_ACKS hn_44
  have S_INVALID_REQUIRED_ACKS : Sta s s.heap "com/example/message_ledger/messageledger/wire/ErrorCode" "INVALID_REQUIRED_ACKS" "Lcom/example/message_ledger/messageledger/wire/ErrorCode;" (.ref a_INVALID_REQUIRED_ACKS) := Sta.start ev_INVALID_REQUIRED_ACKS (Or.inr ⟨(hw _ (List.mem_of_getElem? (i := 6) rfl)), (hw _ (List.mem_of_getElem? (i := 98) rfl))⟩)
  obtain ⟨a_LEADER_NOT_AVAILABLE, ev_LEADER_NOT_AVAILABLE⟩ := exa_v hn_47
  have E_LEADER_NOT_AVAILABLE : Exa s s.heap a_LEADER_NOT_AVAILABLE "com/example/message_ledger/messageledger/wire/ErrorCode" := Exa.start ev_LEADER_NOT_AVAILABLE hn_47
  have S_LEADER_NOT_AVAILABLE : Sta s s.heap "com/example/message_ledger/messageledger/wire/ErrorCode" "LEADER_NOT_AVAILABLE" "Lcom/example/message_ledger/messageledger/wire/ErrorCode;" (.ref a_LEADER_NOT_AVAILABLE) := Sta.start ev_LEADER_NOT_AVAILABLE (Or.inr ⟨(hw _ (List.mem_of_getElem? (i := 6) rfl)), (hw _ (List.mem_of_getElem? (i := 100) rfl))⟩)
  obtain ⟨a_UNSUPPORTED_VERSION, ev_UNSUPPORTED_VERSION⟩ := exa_v hn_50
  have E_UNSUPPORTED_VERSION : Exa s s.heap a_UNSUPPORTED_VERSION "com/example/message_ledger/messageledger/wire/ErrorCode" := Exa.start ev_UNSUPPORTED_VERSION hn_50
  have S_UNSUPPORTED_VERSION : Sta s s.heap "com/example/message_ledger/messageledger/wire/ErrorCode" "UNSUPPORTED_VERSION" "Lcom/example/message_ledger/messageledger/wire/ErrorCode;" (.ref a_UNSUPPORTED_VERSION) := Sta.start ev_UNSUPPORTED_VERSION (Or.inr ⟨(hw _ (List.mem_of_getElem? (i := 6) rfl)), (hw _ (List.mem_of_getElem? (i := 102) rfl))⟩)
  obtain ⟨a_INVALID_GROUP_ID, ev_INVALID_GROUP_ID⟩ := exa_v hn_53
  have E_INVALID_GROUP_ID : Exa s s.heap a_INVALID_GROUP_ID "com/example/message_ledger/messageledger/wire/ErrorCode" := Exa.start ev_INVALID_GROUP_ID hn_53
  have S_INVALID_GROUP_ID : Sta s s.heap "com/example/message_ledger/messageledger/wire/ErrorCode" "INVALID_GROUP_ID" "Lcom/example/message_ledger/messageledger/wire/ErrorCode;" (.ref a_INVALID_GROUP_ID) := Sta.start ev_INVALID_GROUP_ID (Or.inr ⟨(hw _ (List.mem_of_getElem? (i := 6) rfl)), (hw _ (List.mem_of_getElem? (i := 104) rfl))⟩)
  obtain ⟨a_INVALID_TOPIC, ev_INVALID_TOPIC⟩ := exa_v hn_56
  have E_INVALID_TOPIC : Exa s s.heap a_INVALID_TOPIC "com/example/message_ledger/messageledger/wire/ErrorCode" := Exa.start ev_INVALID_TOPIC hn_56
  have S_INVALID_TOPIC : Sta s s.heap "com/example/message_ledger/messageledger/wire/ErrorCode" "INVALID_TOPIC" "Lcom/example/message_ledger/messageledger/wire/ErrorCode;" (.ref a_INVALID_TOPIC) := Sta.start ev_INVALID_TOPIC (Or.inr ⟨(hw _ (List.mem_of_getElem? (i := 6) rfl)), (hw _ (List.mem_of_getElem? (i := 106) rfl))⟩)
  have F_UNKNOWN_ordinal : Fld s s.heap a_UNKNOWN "java/lang/Enum" "ordinal" "I" (.int (0 : Int32)) := Fld.start ((fld_at ev_UNKNOWN).symm.trans (own_eqI hn_3))
  have F_CORRUPT_MESSAGE_ordinal : Fld s s.heap a_CORRUPT_MESSAGE "java/lang/Enum" "ordinal" "I" (.int (3 : Int32)) := Fld.start ((fld_at ev_CORRUPT_MESSAGE).symm.trans (own_eqI hn_4))
  have F_OFFSET_OUT_OF_RANGE_ordinal : Fld s s.heap a_OFFSET_OUT_OF_RANGE "java/lang/Enum" "ordinal" "I" (.int (2 : Int32)) := Fld.start ((fld_at ev_OFFSET_OUT_OF_RANGE).symm.trans (own_eqI hn_5))
  have len_CODES := own_eqI hn_7
  have el_CODES_0 := own_eqR ev_UNKNOWN rfl hn_8
  have el_CODES_3 := own_eqR ev_CORRUPT_MESSAGE rfl hn_9
  have el_CODES_2 := own_eqR ev_OFFSET_OUT_OF_RANGE rfl hn_10
  have F_ILLEGAL_GENERATION_ordinal : Fld s s.heap a_ILLEGAL_GENERATION "java/lang/Enum" "ordinal" "I" (.int (12 : Int32)) := Fld.start ((fld_at ev_ILLEGAL_GENERATION).symm.trans (own_eqI hn_13))
  have F_UNKNOWN_TOPIC_OR_PARTITION_ordinal : Fld s s.heap a_UNKNOWN_TOPIC_OR_PARTITION "java/lang/Enum" "ordinal" "I" (.int (4 : Int32)) := Fld.start ((fld_at ev_UNKNOWN_TOPIC_OR_PARTITION).symm.trans (own_eqI hn_14))
  have el_CODES_12 := own_eqR ev_ILLEGAL_GENERATION rfl hn_15
  have el_CODES_4 := own_eqR ev_UNKNOWN_TOPIC_OR_PARTITION rfl hn_16
  have F_OFFSET_METADATA_TOO_LARGE_ordinal : Fld s s.heap a_OFFSET_METADATA_TOO_LARGE "java/lang/Enum" "ordinal" "I" (.int (9 : Int32)) := Fld.start ((fld_at ev_OFFSET_METADATA_TOO_LARGE).symm.trans (own_eqI hn_18))
  have el_CODES_9 := own_eqR ev_OFFSET_METADATA_TOO_LARGE rfl hn_19
  have F_NOT_LEADER_FOR_PARTITION_ordinal : Fld s s.heap a_NOT_LEADER_FOR_PARTITION "java/lang/Enum" "ordinal" "I" (.int (7 : Int32)) := Fld.start ((fld_at ev_NOT_LEADER_FOR_PARTITION).symm.trans (own_eqI hn_22))
  have F_REBALANCE_IN_PROGRESS_ordinal : Fld s s.heap a_REBALANCE_IN_PROGRESS "java/lang/Enum" "ordinal" "I" (.int (17 : Int32)) := Fld.start ((fld_at ev_REBALANCE_IN_PROGRESS).symm.trans (own_eqI hn_23))
  have el_CODES_7 := own_eqR ev_NOT_LEADER_FOR_PARTITION rfl hn_24
  have el_CODES_17 := own_eqR ev_REBALANCE_IN_PROGRESS rfl hn_25
  have F_NONE_ordinal : Fld s s.heap a_NONE "java/lang/Enum" "ordinal" "I" (.int (1 : Int32)) := Fld.start ((fld_at ev_NONE).symm.trans (own_eqI hn_28))
  have F_MESSAGE_TOO_LARGE_ordinal : Fld s s.heap a_MESSAGE_TOO_LARGE "java/lang/Enum" "ordinal" "I" (.int (8 : Int32)) := Fld.start ((fld_at ev_MESSAGE_TOO_LARGE).symm.trans (own_eqI hn_29))
  have el_CODES_1 := own_eqR ev_NONE rfl hn_30
  have el_CODES_8 := own_eqR ev_MESSAGE_TOO_LARGE rfl hn_31
  have F_INVALID_FETCH_SIZE_ordinal : Fld s s.heap a_INVALID_FETCH_SIZE "java/lang/Enum" "ordinal" "I" (.int (5 : Int32)) := Fld.start ((fld_at ev_INVALID_FETCH_SIZE).symm.trans (own_eqI hn_34))
  have F_INVALID_SESSION_TIMEOUT_ordinal : Fld s s.heap a_INVALID_SESSION_TIMEOUT "java/lang/Enum" "ordinal" "I" (.int (16 : Int32)) := Fld.start ((fld_at ev_INVALID_SESSION_TIMEOUT).symm.trans (own_eqI hn_35))
  have el_CODES_5 := own_eqR ev_INVALID_FETCH_SIZE rfl hn_36
  have el_CODES_16 := own_eqR ev_INVALID_SESSION_TIMEOUT rfl hn_37
  have F_INCONSISTENT_GROUP_PROTOCOL_ordinal : Fld s s.heap a_INCONSISTENT_GROUP_PROTOCOL "java/lang/Enum" "ordinal" "I" (.int (13 : Int32)) := Fld.start ((fld_at ev_INCONSISTENT_GROUP_PROTOCOL).symm.trans (own_eqI hn_40))
  have F_UNKNOWN_MEMBER_ID_ordinal : Fld s s.heap a_UNKNOWN_MEMBER_ID "java/lang/Enum" "ordinal" "I" (.int (15 : Int32)) := Fld.start ((fld_at ev_UNKNOWN_MEMBER_ID).symm.trans (own_eqI hn_41))
  have el_CODES_13 := own_eqR ev_INCONSISTENT_GROUP_PROTOCOL rfl hn_42
  have el_CODES_15 := own_eqR ev_UNKNOWN_MEMBER_ID rfl hn_43
  have F_INVALID_REQUIRED_ACKS_ordinal : Fld s s.heap a_INVALID_REQUIRED_ACKS "java/lang/Enum" "ordinal" "I" (.int (11 : Int32)) := Fld.start ((fld_at ev_INVALID_REQUIRED_ACKS).symm.trans (own_eqI hn_45))
  have el_CODES_11 := own_eqR ev_INVALID_REQUIRED_ACKS rfl hn_46
  have F_LEADER_NOT_AVAILABLE_ordinal : Fld s s.heap a_LEADER_NOT_AVAILABLE "java/lang/Enum" "ordinal" "I" (.int (6 : Int32)) := Fld.start ((fld_at ev_LEADER_NOT_AVAILABLE).symm.trans (own_eqI hn_48))
  have el_CODES_6 := own_eqR ev_LEADER_NOT_AVAILABLE rfl hn_49
  have F_UNSUPPORTED_VERSION_ordinal : Fld s s.heap a_UNSUPPORTED_VERSION "java/lang/Enum" "ordinal" "I" (.int (18 : Int32)) := Fld.start ((fld_at ev_UNSUPPORTED_VERSION).symm.trans (own_eqI hn_51))
  have el_CODES_18 := own_eqR ev_UNSUPPORTED_VERSION rfl hn_52
  have F_INVALID_GROUP_ID_ordinal : Fld s s.heap a_INVALID_GROUP_ID "java/lang/Enum" "ordinal" "I" (.int (14 : Int32)) := Fld.start ((fld_at ev_INVALID_GROUP_ID).symm.trans (own_eqI hn_54))
  have el_CODES_14 := own_eqR ev_INVALID_GROUP_ID rfl hn_55
  have F_INVALID_TOPIC_ordinal : Fld s s.heap a_INVALID_TOPIC "java/lang/Enum" "ordinal" "I" (.int (10 : Int32)) := Fld.start ((fld_at ev_INVALID_TOPIC).symm.trans (own_eqI hn_57))
  have el_CODES_10 := own_eqR ev_INVALID_TOPIC rfl hr_57
  have hsz := own_len ev_CODES A_CODES len_CODES
  obtain ⟨A, hA⟩ : ∃ A : Nat → Addr, A = own_tab a_UNKNOWN a_NONE a_OFFSET_OUT_OF_RANGE a_CORRUPT_MESSAGE a_UNKNOWN_TOPIC_OR_PARTITION a_INVALID_FETCH_SIZE a_LEADER_NOT_AVAILABLE a_NOT_LEADER_FOR_PARTITION a_MESSAGE_TOO_LARGE a_OFFSET_METADATA_TOO_LARGE a_INVALID_TOPIC a_INVALID_REQUIRED_ACKS a_ILLEGAL_GENERATION a_INCONSISTENT_GROUP_PROTOCOL a_INVALID_GROUP_ID a_UNKNOWN_MEMBER_ID a_INVALID_SESSION_TIMEOUT a_REBALANCE_IN_PROGRESS a_UNSUPPORTED_VERSION := ⟨_, rfl⟩
  have hA0 : A 0 = a_UNKNOWN := by rw [hA]; rfl
  have hA1 : A 1 = a_NONE := by rw [hA]; rfl
  have hA2 : A 2 = a_OFFSET_OUT_OF_RANGE := by rw [hA]; rfl
  have hA3 : A 3 = a_CORRUPT_MESSAGE := by rw [hA]; rfl
  have hA4 : A 4 = a_UNKNOWN_TOPIC_OR_PARTITION := by rw [hA]; rfl
  have hA5 : A 5 = a_INVALID_FETCH_SIZE := by rw [hA]; rfl
  have hA6 : A 6 = a_LEADER_NOT_AVAILABLE := by rw [hA]; rfl
  have hA7 : A 7 = a_NOT_LEADER_FOR_PARTITION := by rw [hA]; rfl
  have hA8 : A 8 = a_MESSAGE_TOO_LARGE := by rw [hA]; rfl
  have hA9 : A 9 = a_OFFSET_METADATA_TOO_LARGE := by rw [hA]; rfl
  have hA10 : A 10 = a_INVALID_TOPIC := by rw [hA]; rfl
  have hA11 : A 11 = a_INVALID_REQUIRED_ACKS := by rw [hA]; rfl
  have hA12 : A 12 = a_ILLEGAL_GENERATION := by rw [hA]; rfl
  have hA13 : A 13 = a_INCONSISTENT_GROUP_PROTOCOL := by rw [hA]; rfl
  have hA14 : A 14 = a_INVALID_GROUP_ID := by rw [hA]; rfl
  have hA15 : A 15 = a_UNKNOWN_MEMBER_ID := by rw [hA]; rfl
  have hA16 : A 16 = a_INVALID_SESSION_TIMEOUT := by rw [hA]; rfl
  have hA17 : A 17 = a_REBALANCE_IN_PROGRESS := by rw [hA]; rfl
  have hA18 : A 18 = a_UNSUPPORTED_VERSION := by rw [hA]; rfl
  have V_C : Arv s s.heap a_CODES c_CODES.cls (.object "com/example/message_ledger/messageledger/wire/ErrorCode") (19 : Int32) (own_codes A) .null := by
    refine Arv.start hfit A_CODES hsz.1 hsz.2 (by decide) rfl ?_
    rw [hA]
    exact ⟨(elem_in el_CODES_0 ev_CODES rfl A_CODES.1).2, (elem_in el_CODES_1 ev_CODES rfl A_CODES.1).2, (elem_in el_CODES_2 ev_CODES rfl A_CODES.1).2, (elem_in el_CODES_3 ev_CODES rfl A_CODES.1).2, (elem_in el_CODES_4 ev_CODES rfl A_CODES.1).2, (elem_in el_CODES_5 ev_CODES rfl A_CODES.1).2, (elem_in el_CODES_6 ev_CODES rfl A_CODES.1).2, (elem_in el_CODES_7 ev_CODES rfl A_CODES.1).2, (elem_in el_CODES_8 ev_CODES rfl A_CODES.1).2, (elem_in el_CODES_9 ev_CODES rfl A_CODES.1).2, (elem_in el_CODES_10 ev_CODES rfl A_CODES.1).2, (elem_in el_CODES_11 ev_CODES rfl A_CODES.1).2, (elem_in el_CODES_12 ev_CODES rfl A_CODES.1).2, (elem_in el_CODES_13 ev_CODES rfl A_CODES.1).2, (elem_in el_CODES_14 ev_CODES rfl A_CODES.1).2, (elem_in el_CODES_15 ev_CODES rfl A_CODES.1).2, (elem_in el_CODES_16 ev_CODES rfl A_CODES.1).2, (elem_in el_CODES_17 ev_CODES rfl A_CODES.1).2, (elem_in el_CODES_18 ev_CODES rfl A_CODES.1).2, trivial⟩
  have hE : own_all fun i j => Exa s s.heap (A i) "com/example/message_ledger/messageledger/wire/ErrorCode" := by
    rw [hA]
    exact own_all_of E_UNKNOWN E_NONE E_OFFSET_OUT_OF_RANGE E_CORRUPT_MESSAGE E_UNKNOWN_TOPIC_OR_PARTITION E_INVALID_FETCH_SIZE E_LEADER_NOT_AVAILABLE E_NOT_LEADER_FOR_PARTITION E_MESSAGE_TOO_LARGE E_OFFSET_METADATA_TOO_LARGE E_INVALID_TOPIC E_INVALID_REQUIRED_ACKS E_ILLEGAL_GENERATION E_INCONSISTENT_GROUP_PROTOCOL E_INVALID_GROUP_ID E_UNKNOWN_MEMBER_ID E_INVALID_SESSION_TIMEOUT E_REBALANCE_IN_PROGRESS E_UNSUPPORTED_VERSION
  have hO : own_all fun i j => Fld s s.heap (A i) "java/lang/Enum" "ordinal" "I" (.int j) := by
    rw [hA]
    exact own_all_of F_UNKNOWN_ordinal F_NONE_ordinal F_OFFSET_OUT_OF_RANGE_ordinal F_CORRUPT_MESSAGE_ordinal F_UNKNOWN_TOPIC_OR_PARTITION_ordinal F_INVALID_FETCH_SIZE_ordinal F_LEADER_NOT_AVAILABLE_ordinal F_NOT_LEADER_FOR_PARTITION_ordinal F_MESSAGE_TOO_LARGE_ordinal F_OFFSET_METADATA_TOO_LARGE_ordinal F_INVALID_TOPIC_ordinal F_INVALID_REQUIRED_ACKS_ordinal F_ILLEGAL_GENERATION_ordinal F_INCONSISTENT_GROUP_PROTOCOL_ordinal F_INVALID_GROUP_ID_ordinal F_UNKNOWN_MEMBER_ID_ordinal F_INVALID_SESSION_TIMEOUT_ordinal F_REBALANCE_IN_PROGRESS_ordinal F_UNSUPPORTED_VERSION_ordinal
  rw [← hA0] at S_UNKNOWN
  rw [← hA1] at S_NONE
  rw [← hA2] at S_OFFSET_OUT_OF_RANGE
  rw [← hA3] at S_CORRUPT_MESSAGE
  rw [← hA4] at S_UNKNOWN_TOPIC_OR_PARTITION
  rw [← hA5] at S_INVALID_FETCH_SIZE
  rw [← hA6] at S_LEADER_NOT_AVAILABLE
  rw [← hA7] at S_NOT_LEADER_FOR_PARTITION
  rw [← hA8] at S_MESSAGE_TOO_LARGE
  rw [← hA9] at S_OFFSET_METADATA_TOO_LARGE
  rw [← hA10] at S_INVALID_TOPIC
  rw [← hA11] at S_INVALID_REQUIRED_ACKS
  rw [← hA12] at S_ILLEGAL_GENERATION
  rw [← hA13] at S_INCONSISTENT_GROUP_PROTOCOL
  rw [← hA14] at S_INVALID_GROUP_ID
  rw [← hA15] at S_UNKNOWN_MEMBER_ID
  rw [← hA16] at S_INVALID_SESSION_TIMEOUT
  rw [← hA17] at S_REBALANCE_IN_PROGRESS
  rw [← hA18] at S_UNSUPPORTED_VERSION
  obtain ⟨n, o, h1, h2, h3, _, L, rfl, ⟨rfl, N⟩, hq⟩ := rm0 l s _ hw tables_1 i0 i1 i2 i3 a_CODES c_CODES.cls A s.heap s.heap.size (Nat.le_refl _) S_UNKNOWN S_NONE S_OFFSET_OUT_OF_RANGE S_CORRUPT_MESSAGE S_UNKNOWN_TOPIC_OR_PARTITION S_INVALID_FETCH_SIZE S_LEADER_NOT_AVAILABLE S_NOT_LEADER_FOR_PARTITION S_MESSAGE_TOO_LARGE S_OFFSET_METADATA_TOO_LARGE S_INVALID_TOPIC S_INVALID_REQUIRED_ACKS S_ILLEGAL_GENERATION S_INCONSISTENT_GROUP_PROTOCOL S_INVALID_GROUP_ID S_UNKNOWN_MEMBER_ID S_INVALID_SESSION_TIMEOUT S_REBALANCE_IN_PROGRESS S_UNSUPPORTED_VERSION S_CODES V_C hE hO p e ha hc hk s m _ below hf ((Spec.applies_iff_loose hf).mp happ).1 ⟨rfl, State.Warmed39.refl s, rfl⟩ trivial
  refine ⟨n, _, h1, h2, h3, hpost _ _ _ _ _ _ ⟨Cond.after_iff.mpr rfl, Cond.after_iff.mpr (eq_i res_at (Term.int_eval (1)) rfl), trivial⟩ ⟨hq.1, hq.2.1, (hq.2.2.sift fun y hy => Or.inr (N y hy)).mono (by decide) (by decide)⟩⟩
theorem main_1_1 : Claimed_1_1 := comes_1 fun _ _ _ _ _ _ h hF => ⟨h.1, hF⟩
theorem main_1_2 : Claimed_1_2 := comes_1 fun _ _ _ _ _ _ h hF => ⟨h.2.1, hF⟩
end Jvm.Pilot.@@N@@
namespace Jvm.Pilot.@@N@@
open Jvm Jvm.ClassFile Sem Op Lib Jvm.Free Jvm.Stand Jvm.Pilot.@@N@@.Jvm.D
/-! MADE BY PROGRAM (witnessworld.py) out of the Statement's table words and the real class files: 22 classes; the members and pool entries that the words name. The judged class is class 1, her method 2. -/
namespace start1
open Jvm.ClassFile
def u (s : String) : CpInfo := .utf8 (stringToUtf16 s)
/-- a pool by its gaps: so many unusable entries, then the entry; so many at the end -/
def gap : Nat → List CpInfo → List CpInfo
  | 0, r => r
  | n + 1, r => .unusable :: gap n r
def poolList (es : List (Nat × CpInfo)) (last : Nat) : List CpInfo := es.foldr (fun e r => gap e.1 (e.2 :: r)) (gap last [])
def pool (es : List (Nat × CpInfo)) (last : Nat) : Array CpInfo := ⟨poolList es last⟩
def fileOf (pool : Array CpInfo) (this : Nat) (attrs : Array Attribute := #[]) (ms : Array MethodInfo := #[]) (fl : Nat := 33) (sup : Nat := 0) (ifs : Array Nat := #[]) (fds : Array FieldInfo := #[]) : ClassFile where
  minorVersion := 0
  majorVersion := 65
  constantPool := pool
  accessFlags := fl
  thisClass := this
  superClass := sup
  interfaces := ifs
  fields := fds
  methods := ms
  attributes := attrs
def plain (name : String) (sup : Option ClassId) : Class where
  name := name
  kind := .ordinary
  loader := none
  accessFlags := 33
  super := sup
  interfaces := #[]
  cf := none
  fields := #[]
  methods := #[]
  instanceTypes := #[]
  staticTypes := #[]
  resolved := #[]
  callSites := []
  init := .initialized
  statics := none
  mirror := none

def pool0 : Array CpInfo := pool [(5, u "<init>"), (0, u "()V"), (1, .class_ 10), (1, u "java/lang/Object")] 113

def k0c0 : Code := { maxStack := 0, maxLocals := 1, code := object_method_1_code, exceptionTable := #[], attributes := #[] }
def k0m0 : Method := { name := "<init>", desc := "()V", sig := { parameters := [], returnType := none }, accessFlags := 1, code := some k0c0 }
/-- java/lang/Object -/
def k0 : Class := { plain "java/lang/Object" none with
  accessFlags := 33
  interfaces := #[]
  cf := some (fileOf pool0 8 #[] #[{ accessFlags := 1, nameIndex := 5, descriptorIndex := 6, attributes := #[] }] 33 0 #[] #[])
  fields := #[]
  methods := #[k0m0]
  instanceTypes := #[]
  staticTypes := #[]
  resolved := Array.replicate 124 none
  statics := none }

def pool1 : Array CpInfo := pool [(2, .class_ 4), (1, u "java/lang/Object"), (0, u "<init>"), (0, u "()V"), (0, .integer 2147483647), (0, .fieldref 9 10), (0, .class_ 11), (0, .nameAndType 12 13), (0, u "com/example/message_ledger/messageledger/wire/ErrorCode"), (0, u "UNKNOWN"), (0, u "Lcom/example/message_ledger/messageledger/wire/ErrorCode;"), (0, .fieldref 9 15), (0, .nameAndType 16 13), (0, u "NONE"), (0, .fieldref 9 18), (0, .nameAndType 19 13), (0, u "OFFSET_OUT_OF_RANGE"), (0, .fieldref 9 21), (0, .nameAndType 22 13), (0, u "CORRUPT_MESSAGE"), (0, .fieldref 9 24), (0, .nameAndType 25 13), (0, u "UNKNOWN_TOPIC_OR_PARTITION"), (0, .fieldref 9 27), (0, .nameAndType 28 13), (0, u "INVALID_FETCH_SIZE"), (0, .fieldref 9 30), (0, .nameAndType 31 13), (0, u "LEADER_NOT_AVAILABLE"), (0, .fieldref 9 33), (0, .nameAndType 34 13), (0, u "NOT_LEADER_FOR_PARTITION"), (0, .fieldref 9 36), (0, .nameAndType 37 13), (0, u "MESSAGE_TOO_LARGE"), (0, .fieldref 9 39), (0, .nameAndType 40 13), (0, u "OFFSET_METADATA_TOO_LARGE"), (0, .fieldref 9 42), (0, .nameAndType 43 13), (0, u "INVALID_TOPIC"), (0, .fieldref 9 45), (0, .nameAndType 46 13), (0, u "INVALID_REQUIRED_ACKS"), (0, .fieldref 9 48), (0, .nameAndType 49 13), (0, u "ILLEGAL_GENERATION"), (0, .fieldref 9 51), (0, .nameAndType 52 13), (0, u "INCONSISTENT_GROUP_PROTOCOL"), (0, .fieldref 9 54), (0, .nameAndType 55 13), (0, u "INVALID_GROUP_ID"), (0, .fieldref 9 57), (0, .nameAndType 58 13), (0, u "UNKNOWN_MEMBER_ID"), (0, .fieldref 9 60), (0, .nameAndType 61 13), (0, u "INVALID_SESSION_TIMEOUT"), (0, .fieldref 9 63), (0, .nameAndType 64 13), (0, u "REBALANCE_IN_PROGRESS"), (0, .fieldref 9 66), (0, .nameAndType 67 13), (0, u "UNSUPPORTED_VERSION"), (0, .methodref 69 70), (0, .class_ 71), (0, .nameAndType 72 73), (0, u "com/example/message_ledger/messageledger/requests/ErrorCodeListAddPinLaw"), (0, u "pick"), (0, u "(I)Lcom/example/message_ledger/messageledger/wire/ErrorCode;"), (0, .class_ 75), (0, u "com/example/message_ledger/messageledger/requests/ErrorCodeList"), (0, .methodref 74 77), (0, .nameAndType 5 78), (0, u "(I)V"), (0, .methodref 74 80), (0, .nameAndType 81 82), (0, u "add"), (0, u "(Lcom/example/message_ledger/messageledger/wire/ErrorCode;)Z"), (0, .methodref 74 84), (0, .nameAndType 85 86), (0, u "size"), (0, u "()I"), (0, .methodref 74 88), (0, .nameAndType 89 73), (0, u "get"), (3, u "law"), (0, u "(IIII)Z")] 2

def k1m0 : Method := { name := "<init>", desc := "()V", sig := { parameters := [], returnType := none }, accessFlags := 1, code := none }
def k1c1 : Code := { maxStack := 2, maxLocals := 2, code := method_2_code, exceptionTable := #[], attributes := #[] }
def k1m1 : Method := { name := "pick", desc := "(I)Lcom/example/message_ledger/messageledger/wire/ErrorCode;", sig := { parameters := [.int], returnType := some (.object "com/example/message_ledger/messageledger/wire/ErrorCode") }, accessFlags := 10, code := some k1c1 }
def k1c2 : Code := { maxStack := 5, maxLocals := 14, code := code, exceptionTable := #[], attributes := #[] }
def k1m2 : Method := { name := "law", desc := "(IIII)Z", sig := { parameters := [.int, .int, .int, .int], returnType := some .boolean }, accessFlags := 9, code := some k1c2 }
/-- com/example/message_ledger/messageledger/requests/ErrorCodeListAddPinLaw -/
def k1 : Class := { plain "com/example/message_ledger/messageledger/requests/ErrorCodeListAddPinLaw" (some 0) with
  accessFlags := 49
  interfaces := #[]
  cf := some (fileOf pool1 69 #[] #[{ accessFlags := 1, nameIndex := 5, descriptorIndex := 6, attributes := #[] }, { accessFlags := 10, nameIndex := 72, descriptorIndex := 73, attributes := #[] }, { accessFlags := 9, nameIndex := 93, descriptorIndex := 94, attributes := #[] }] 49 2 #[] #[])
  fields := #[]
  methods := #[k1m0, k1m1, k1m2]
  instanceTypes := #[]
  staticTypes := #[]
  resolved := Array.replicate 97 none
  statics := none }

def pool2 : Array CpInfo := pool [(1, .class_ 2), (0, u "java/lang/constant/Constable"), (0, .class_ 4), (0, u "java/lang/Object")] 6

/-- java/lang/constant/Constable -/
def k2 : Class := { plain "java/lang/constant/Constable" (some 0) with
  accessFlags := 1537
  interfaces := #[]
  cf := some (fileOf pool2 1 #[] #[] 1537 3 #[] #[])
  fields := #[]
  methods := #[]
  instanceTypes := #[]
  staticTypes := #[]
  resolved := Array.replicate 11 none
  statics := none }

def pool3 : Array CpInfo := pool [(1, .class_ 2), (0, u "java/lang/Comparable"), (0, .class_ 4), (0, u "java/lang/Object")] 7

/-- java/lang/Comparable -/
def k3 : Class := { plain "java/lang/Comparable" (some 0) with
  accessFlags := 1537
  interfaces := #[]
  cf := some (fileOf pool3 1 #[] #[] 1537 3 #[] #[])
  fields := #[]
  methods := #[]
  instanceTypes := #[]
  staticTypes := #[]
  resolved := Array.replicate 12 none
  statics := none }

def pool4 : Array CpInfo := pool [(1, .class_ 2), (0, u "java/io/Serializable"), (0, .class_ 4), (0, u "java/lang/Object")] 2

/-- java/io/Serializable -/
def k4 : Class := { plain "java/io/Serializable" (some 0) with
  accessFlags := 1537
  interfaces := #[]
  cf := some (fileOf pool4 1 #[] #[] 1537 3 #[] #[])
  fields := #[]
  methods := #[]
  instanceTypes := #[]
  staticTypes := #[]
  resolved := Array.replicate 7 none
  statics := none }

def pool5 : Array CpInfo := pool [(2, .class_ 4), (1, u "java/lang/Enum"), (0, u "name"), (0, u "Ljava/lang/String;"), (0, .fieldref 2 8), (0, .nameAndType 9 10), (0, u "ordinal"), (0, u "I"), (1, .class_ 14), (1, u "java/lang/Object"), (4, u "hash"), (86, .class_ 108), (1, u "java/lang/Enum$EnumDesc"), (2, .class_ 112), (0, u "java/lang/constant/Constable"), (0, .class_ 114), (0, u "java/lang/Comparable"), (0, .class_ 116), (0, u "java/io/Serializable"), (9, u "()I")] 77

def k5c0 : Code := { maxStack := 1, maxLocals := 1, code := jdk_37_method_2_code, exceptionTable := #[], attributes := #[] }
def k5m0 : Method := { name := "ordinal", desc := "()I", sig := { parameters := [], returnType := some .int }, accessFlags := 17, code := some k5c0 }
/-- java/lang/Enum -/
def k5 : Class := { plain "java/lang/Enum" (some 0) with
  accessFlags := 1057
  interfaces := #[2, 3, 4]
  cf := some (fileOf pool5 2 #[.nestMembers #[106]] #[{ accessFlags := 17, nameIndex := 9, descriptorIndex := 126, attributes := #[] }] 1057 12 #[111, 113, 115] #[{ accessFlags := 18, nameIndex := 5, descriptorIndex := 6, attributes := #[] }, { accessFlags := 18, nameIndex := 9, descriptorIndex := 10, attributes := #[] }, { accessFlags := 2, nameIndex := 19, descriptorIndex := 10, attributes := #[] }])
  fields := #[{ name := "name", type := (.object "java/lang/String"), accessFlags := 18, slot := 0, constantValue := 0 }, { name := "ordinal", type := .int, accessFlags := 18, slot := 1, constantValue := 0 }, { name := "hash", type := .int, accessFlags := 2, slot := 2, constantValue := 0 }]
  methods := #[k5m0]
  instanceTypes := #[(.object "java/lang/String"), .int, .int]
  staticTypes := #[]
  resolved := Array.replicate 204 none
  statics := none }

def pool6 : Array CpInfo := pool [(1, .class_ 2), (0, u "com/example/message_ledger/messageledger/wire/ErrorCode"), (2, u "UNKNOWN"), (0, u "Lcom/example/message_ledger/messageledger/wire/ErrorCode;"), (2, u "NONE"), (2, u "OFFSET_OUT_OF_RANGE"), (2, u "CORRUPT_MESSAGE"), (2, u "UNKNOWN_TOPIC_OR_PARTITION"), (2, u "INVALID_FETCH_SIZE"), (2, u "LEADER_NOT_AVAILABLE"), (2, u "NOT_LEADER_FOR_PARTITION"), (2, u "MESSAGE_TOO_LARGE"), (2, u "OFFSET_METADATA_TOO_LARGE"), (2, u "INVALID_TOPIC"), (2, u "INVALID_REQUIRED_ACKS"), (2, u "ILLEGAL_GENERATION"), (2, u "INCONSISTENT_GROUP_PROTOCOL"), (2, u "INVALID_GROUP_ID"), (2, u "UNKNOWN_MEMBER_ID"), (2, u "INVALID_SESSION_TIMEOUT"), (2, u "REBALANCE_IN_PROGRESS"), (2, u "UNSUPPORTED_VERSION"), (2, u "$VALUES"), (0, u "[Lcom/example/message_ledger/messageledger/wire/ErrorCode;"), (6, .class_ 73), (1, u "java/lang/Enum"), (8, u "code"), (0, u "S")] 39

/-- com/example/message_ledger/messageledger/wire/ErrorCode -/
def k6 : Class := { plain "com/example/message_ledger/messageledger/wire/ErrorCode" (some 5) with
  accessFlags := 16433
  interfaces := #[]
  cf := some (fileOf pool6 1 #[] #[] 16433 71 #[] #[{ accessFlags := 16409, nameIndex := 5, descriptorIndex := 6, attributes := #[] }, { accessFlags := 16409, nameIndex := 9, descriptorIndex := 6, attributes := #[] }, { accessFlags := 16409, nameIndex := 12, descriptorIndex := 6, attributes := #[] }, { accessFlags := 16409, nameIndex := 15, descriptorIndex := 6, attributes := #[] }, { accessFlags := 16409, nameIndex := 18, descriptorIndex := 6, attributes := #[] }, { accessFlags := 16409, nameIndex := 21, descriptorIndex := 6, attributes := #[] }, { accessFlags := 16409, nameIndex := 24, descriptorIndex := 6, attributes := #[] }, { accessFlags := 16409, nameIndex := 27, descriptorIndex := 6, attributes := #[] }, { accessFlags := 16409, nameIndex := 30, descriptorIndex := 6, attributes := #[] }, { accessFlags := 16409, nameIndex := 33, descriptorIndex := 6, attributes := #[] }, { accessFlags := 16409, nameIndex := 36, descriptorIndex := 6, attributes := #[] }, { accessFlags := 16409, nameIndex := 39, descriptorIndex := 6, attributes := #[] }, { accessFlags := 16409, nameIndex := 42, descriptorIndex := 6, attributes := #[] }, { accessFlags := 16409, nameIndex := 45, descriptorIndex := 6, attributes := #[] }, { accessFlags := 16409, nameIndex := 48, descriptorIndex := 6, attributes := #[] }, { accessFlags := 16409, nameIndex := 51, descriptorIndex := 6, attributes := #[] }, { accessFlags := 16409, nameIndex := 54, descriptorIndex := 6, attributes := #[] }, { accessFlags := 16409, nameIndex := 57, descriptorIndex := 6, attributes := #[] }, { accessFlags := 16409, nameIndex := 60, descriptorIndex := 6, attributes := #[] }, { accessFlags := 18, nameIndex := 82, descriptorIndex := 83, attributes := #[] }, { accessFlags := 4122, nameIndex := 63, descriptorIndex := 64, attributes := #[] }])
  fields := #[{ name := "UNKNOWN", type := (.object "com/example/message_ledger/messageledger/wire/ErrorCode"), accessFlags := 16409, slot := 0, constantValue := 0 }, { name := "NONE", type := (.object "com/example/message_ledger/messageledger/wire/ErrorCode"), accessFlags := 16409, slot := 1, constantValue := 0 }, { name := "OFFSET_OUT_OF_RANGE", type := (.object "com/example/message_ledger/messageledger/wire/ErrorCode"), accessFlags := 16409, slot := 2, constantValue := 0 }, { name := "CORRUPT_MESSAGE", type := (.object "com/example/message_ledger/messageledger/wire/ErrorCode"), accessFlags := 16409, slot := 3, constantValue := 0 }, { name := "UNKNOWN_TOPIC_OR_PARTITION", type := (.object "com/example/message_ledger/messageledger/wire/ErrorCode"), accessFlags := 16409, slot := 4, constantValue := 0 }, { name := "INVALID_FETCH_SIZE", type := (.object "com/example/message_ledger/messageledger/wire/ErrorCode"), accessFlags := 16409, slot := 5, constantValue := 0 }, { name := "LEADER_NOT_AVAILABLE", type := (.object "com/example/message_ledger/messageledger/wire/ErrorCode"), accessFlags := 16409, slot := 6, constantValue := 0 }, { name := "NOT_LEADER_FOR_PARTITION", type := (.object "com/example/message_ledger/messageledger/wire/ErrorCode"), accessFlags := 16409, slot := 7, constantValue := 0 }, { name := "MESSAGE_TOO_LARGE", type := (.object "com/example/message_ledger/messageledger/wire/ErrorCode"), accessFlags := 16409, slot := 8, constantValue := 0 }, { name := "OFFSET_METADATA_TOO_LARGE", type := (.object "com/example/message_ledger/messageledger/wire/ErrorCode"), accessFlags := 16409, slot := 9, constantValue := 0 }, { name := "INVALID_TOPIC", type := (.object "com/example/message_ledger/messageledger/wire/ErrorCode"), accessFlags := 16409, slot := 10, constantValue := 0 }, { name := "INVALID_REQUIRED_ACKS", type := (.object "com/example/message_ledger/messageledger/wire/ErrorCode"), accessFlags := 16409, slot := 11, constantValue := 0 }, { name := "ILLEGAL_GENERATION", type := (.object "com/example/message_ledger/messageledger/wire/ErrorCode"), accessFlags := 16409, slot := 12, constantValue := 0 }, { name := "INCONSISTENT_GROUP_PROTOCOL", type := (.object "com/example/message_ledger/messageledger/wire/ErrorCode"), accessFlags := 16409, slot := 13, constantValue := 0 }, { name := "INVALID_GROUP_ID", type := (.object "com/example/message_ledger/messageledger/wire/ErrorCode"), accessFlags := 16409, slot := 14, constantValue := 0 }, { name := "UNKNOWN_MEMBER_ID", type := (.object "com/example/message_ledger/messageledger/wire/ErrorCode"), accessFlags := 16409, slot := 15, constantValue := 0 }, { name := "INVALID_SESSION_TIMEOUT", type := (.object "com/example/message_ledger/messageledger/wire/ErrorCode"), accessFlags := 16409, slot := 16, constantValue := 0 }, { name := "REBALANCE_IN_PROGRESS", type := (.object "com/example/message_ledger/messageledger/wire/ErrorCode"), accessFlags := 16409, slot := 17, constantValue := 0 }, { name := "UNSUPPORTED_VERSION", type := (.object "com/example/message_ledger/messageledger/wire/ErrorCode"), accessFlags := 16409, slot := 18, constantValue := 0 }, { name := "code", type := .short, accessFlags := 18, slot := 3, constantValue := 0 }, { name := "$VALUES", type := (.array (.object "com/example/message_ledger/messageledger/wire/ErrorCode")), accessFlags := 4122, slot := 19, constantValue := 0 }]
  methods := #[]
  instanceTypes := #[(.object "java/lang/String"), .int, .int, .short]
  staticTypes := #[(.object "com/example/message_ledger/messageledger/wire/ErrorCode"), (.object "com/example/message_ledger/messageledger/wire/ErrorCode"), (.object "com/example/message_ledger/messageledger/wire/ErrorCode"), (.object "com/example/message_ledger/messageledger/wire/ErrorCode"), (.object "com/example/message_ledger/messageledger/wire/ErrorCode"), (.object "com/example/message_ledger/messageledger/wire/ErrorCode"), (.object "com/example/message_ledger/messageledger/wire/ErrorCode"), (.object "com/example/message_ledger/messageledger/wire/ErrorCode"), (.object "com/example/message_ledger/messageledger/wire/ErrorCode"), (.object "com/example/message_ledger/messageledger/wire/ErrorCode"), (.object "com/example/message_ledger/messageledger/wire/ErrorCode"), (.object "com/example/message_ledger/messageledger/wire/ErrorCode"), (.object "com/example/message_ledger/messageledger/wire/ErrorCode"), (.object "com/example/message_ledger/messageledger/wire/ErrorCode"), (.object "com/example/message_ledger/messageledger/wire/ErrorCode"), (.object "com/example/message_ledger/messageledger/wire/ErrorCode"), (.object "com/example/message_ledger/messageledger/wire/ErrorCode"), (.object "com/example/message_ledger/messageledger/wire/ErrorCode"), (.object "com/example/message_ledger/messageledger/wire/ErrorCode"), (.array (.object "com/example/message_ledger/messageledger/wire/ErrorCode"))]
  resolved := Array.replicate 123 none
  statics := some 0 }

def pool7 : Array CpInfo := pool [(8, .class_ 10), (1, u "java/lang/Iterable"), (24, .class_ 36), (0, u "java/lang/Object")] 25

/-- java/lang/Iterable -/
def k7 : Class := { plain "java/lang/Iterable" (some 0) with
  accessFlags := 1537
  interfaces := #[]
  cf := some (fileOf pool7 8 #[] #[] 1537 35 #[] #[])
  fields := #[]
  methods := #[]
  instanceTypes := #[]
  staticTypes := #[]
  resolved := Array.replicate 62 none
  statics := none }

def pool8 : Array CpInfo := pool [(10, .class_ 12), (1, u "java/util/Collection"), (47, .class_ 61), (0, u "java/lang/Object"), (0, .class_ 63), (0, u "java/lang/Iterable")] 51

/-- java/util/Collection -/
def k8 : Class := { plain "java/util/Collection" (some 0) with
  accessFlags := 1537
  interfaces := #[7]
  cf := some (fileOf pool8 10 #[] #[] 1537 60 #[62] #[])
  fields := #[]
  methods := #[]
  instanceTypes := #[]
  staticTypes := #[]
  resolved := Array.replicate 115 none
  statics := none }

def pool9 : Array CpInfo := pool [(1, .methodref 2 3), (0, .class_ 4), (0, .nameAndType 5 6), (0, u "java/lang/Object"), (0, u "<init>"), (0, u "()V"), (1, .class_ 10), (1, u "java/util/AbstractCollection"), (66, .class_ 78), (0, u "java/util/Collection")] 81

def k9c0 : Code := { maxStack := 1, maxLocals := 1, code := jdk_22_method_1_code, exceptionTable := #[], attributes := #[] }
def k9m0 : Method := { name := "<init>", desc := "()V", sig := { parameters := [], returnType := none }, accessFlags := 4, code := some k9c0 }
/-- java/util/AbstractCollection -/
def k9 : Class := { plain "java/util/AbstractCollection" (some 0) with
  accessFlags := 1057
  interfaces := #[8]
  cf := some (fileOf pool9 8 #[] #[{ accessFlags := 4, nameIndex := 5, descriptorIndex := 6, attributes := #[] }] 1057 2 #[77] #[])
  fields := #[]
  methods := #[k9m0]
  instanceTypes := #[]
  staticTypes := #[]
  resolved := Array.replicate 160 none
  statics := none }

def pool10 : Array CpInfo := pool [(8, .class_ 10), (1, u "java/util/SequencedCollection"), (15, .class_ 27), (0, u "java/lang/Object"), (0, .class_ 29), (0, u "java/util/Collection")] 27

/-- java/util/SequencedCollection -/
def k10 : Class := { plain "java/util/SequencedCollection" (some 0) with
  accessFlags := 1537
  interfaces := #[8]
  cf := some (fileOf pool10 8 #[] #[] 1537 26 #[28] #[])
  fields := #[]
  methods := #[]
  instanceTypes := #[]
  staticTypes := #[]
  resolved := Array.replicate 57 none
  statics := none }

def pool11 : Array CpInfo := pool [(8, .class_ 10), (1, u "java/util/List"), (92, .class_ 104), (0, u "java/lang/Object"), (15, .class_ 121), (0, u "java/util/SequencedCollection")] 129

/-- java/util/List -/
def k11 : Class := { plain "java/util/List" (some 0) with
  accessFlags := 1537
  interfaces := #[10]
  cf := some (fileOf pool11 8 #[] #[] 1537 103 #[120] #[])
  fields := #[]
  methods := #[]
  instanceTypes := #[]
  staticTypes := #[]
  resolved := Array.replicate 251 none
  statics := none }

def pool12 : Array CpInfo := pool [(1, .methodref 2 3), (0, .class_ 4), (0, .nameAndType 5 6), (0, u "java/util/AbstractCollection"), (0, u "<init>"), (0, u "()V"), (0, .fieldref 8 9), (0, .class_ 10), (0, .nameAndType 11 12), (0, u "java/util/AbstractList"), (0, u "modCount"), (0, u "I"), (64, .class_ 78), (0, u "java/util/AbstractList$Itr"), (3, .class_ 83), (0, u "java/util/AbstractList$ListItr"), (9, .class_ 94), (0, u "java/util/AbstractList$RandomAccessSubList"), (3, .class_ 99), (0, u "java/util/AbstractList$SubList"), (33, .class_ 134), (0, u "java/util/List"), (73, .class_ 209), (0, u "java/util/AbstractList$SubList$1"), (0, .class_ 211), (0, u "java/util/AbstractList$RandomAccessSpliterator")] 6

def k12c0 : Code := { maxStack := 2, maxLocals := 1, code := jdk_39_method_1_code, exceptionTable := #[], attributes := #[] }
def k12m0 : Method := { name := "<init>", desc := "()V", sig := { parameters := [], returnType := none }, accessFlags := 4, code := some k12c0 }
/-- java/util/AbstractList -/
def k12 : Class := { plain "java/util/AbstractList" (some 9) with
  accessFlags := 1057
  interfaces := #[11]
  cf := some (fileOf pool12 8 #[.nestMembers #[93, 98, 208, 210, 82, 77]] #[{ accessFlags := 4, nameIndex := 5, descriptorIndex := 6, attributes := #[] }] 1057 2 #[133] #[{ accessFlags := 132, nameIndex := 11, descriptorIndex := 12, attributes := #[] }])
  fields := #[{ name := "modCount", type := .int, accessFlags := 132, slot := 0, constantValue := 0 }]
  methods := #[k12m0]
  instanceTypes := #[.int]
  staticTypes := #[]
  resolved := Array.replicate 218 none
  statics := none }

def pool13 : Array CpInfo := pool [(1, .methodref 2 3), (0, .class_ 4), (0, .nameAndType 5 6), (0, u "java/util/AbstractList"), (0, u "<init>"), (0, u "()V"), (0, .fieldref 8 9), (0, .class_ 10), (0, .nameAndType 11 12), (0, u "com/example/message_ledger/messageledger/requests/ErrorCodeList"), (0, u "ordinals"), (0, u "[B"), (0, .fieldref 8 14), (0, .nameAndType 15 16), (0, u "size"), (0, u "I"), (0, .methodref 18 19), (0, .class_ 20), (0, .nameAndType 21 22), (0, u "com/example/message_ledger/messageledger/wire/ErrorCode"), (0, u "ordinal"), (0, u "()I"), (0, .fieldref 8 24), (0, .nameAndType 25 16), (0, u "modCount"), (0, .methodref 27 28), (0, .class_ 29), (0, .nameAndType 30 31), (0, u "java/util/Objects"), (0, u "checkIndex"), (0, u "(II)I"), (0, .fieldref 8 33), (0, .nameAndType 34 35), (0, u "CODES"), (0, u "[Lcom/example/message_ledger/messageledger/wire/ErrorCode;"), (2, u "get"), (0, u "(I)Lcom/example/message_ledger/messageledger/wire/ErrorCode;"), (2, u "add"), (0, u "(Lcom/example/message_ledger/messageledger/wire/ErrorCode;)Z"), (4, u "(I)V")] 10

def k13c0 : Code := { maxStack := 2, maxLocals := 2, code := prog_61_method_1_code, exceptionTable := #[], attributes := #[] }
def k13m0 : Method := { name := "<init>", desc := "(I)V", sig := { parameters := [.int], returnType := none }, accessFlags := 0, code := some k13c0 }
def k13c1 : Code := { maxStack := 5, maxLocals := 2, code := prog_61_method_2_code, exceptionTable := #[], attributes := #[] }
def k13m1 : Method := { name := "add", desc := "(Lcom/example/message_ledger/messageledger/wire/ErrorCode;)Z", sig := { parameters := [(.object "com/example/message_ledger/messageledger/wire/ErrorCode")], returnType := some .boolean }, accessFlags := 1, code := some k13c1 }
def k13c2 : Code := { maxStack := 3, maxLocals := 2, code := prog_61_method_3_code, exceptionTable := #[], attributes := #[] }
def k13m2 : Method := { name := "get", desc := "(I)Lcom/example/message_ledger/messageledger/wire/ErrorCode;", sig := { parameters := [.int], returnType := some (.object "com/example/message_ledger/messageledger/wire/ErrorCode") }, accessFlags := 1, code := some k13c2 }
def k13c3 : Code := { maxStack := 1, maxLocals := 1, code := prog_61_method_4_code, exceptionTable := #[], attributes := #[] }
def k13m3 : Method := { name := "size", desc := "()I", sig := { parameters := [], returnType := some .int }, accessFlags := 1, code := some k13c3 }
/-- com/example/message_ledger/messageledger/requests/ErrorCodeList -/
def k13 : Class := { plain "com/example/message_ledger/messageledger/requests/ErrorCodeList" (some 12) with
  accessFlags := 48
  interfaces := #[]
  cf := some (fileOf pool13 8 #[] #[{ accessFlags := 0, nameIndex := 5, descriptorIndex := 48, attributes := #[] }, { accessFlags := 1, nameIndex := 42, descriptorIndex := 43, attributes := #[] }, { accessFlags := 1, nameIndex := 38, descriptorIndex := 39, attributes := #[] }, { accessFlags := 1, nameIndex := 15, descriptorIndex := 22, attributes := #[] }] 48 2 #[] #[{ accessFlags := 26, nameIndex := 34, descriptorIndex := 35, attributes := #[] }, { accessFlags := 18, nameIndex := 11, descriptorIndex := 12, attributes := #[] }, { accessFlags := 2, nameIndex := 15, descriptorIndex := 16, attributes := #[] }])
  fields := #[{ name := "CODES", type := (.array (.object "com/example/message_ledger/messageledger/wire/ErrorCode")), accessFlags := 26, slot := 0, constantValue := 0 }, { name := "ordinals", type := (.array .byte), accessFlags := 18, slot := 1, constantValue := 0 }, { name := "size", type := .int, accessFlags := 2, slot := 2, constantValue := 0 }]
  methods := #[k13m0, k13m1, k13m2, k13m3]
  instanceTypes := #[.int, (.array .byte), .int]
  staticTypes := #[(.array (.object "com/example/message_ledger/messageledger/wire/ErrorCode"))]
  resolved := Array.replicate 59 none
  statics := some 1 }

def pool14 : Array CpInfo := pool [(2, .class_ 4), (1, u "java/lang/Object"), (0, u "<init>"), (0, u "()V"), (35, .class_ 44), (1, u "java/util/Objects"), (60, .methodref 106 107), (0, .class_ 108), (0, .nameAndType 109 110), (0, u "jdk/internal/util/Preconditions"), (0, u "checkIndex"), (0, u "(IILjava/util/function/BiFunction;)I"), (60, u "(II)I")] 12

def k14m0 : Method := { name := "<init>", desc := "()V", sig := { parameters := [], returnType := none }, accessFlags := 2, code := none }
def k14c1 : Code := { maxStack := 3, maxLocals := 2, code := jdk_31_method_17_code, exceptionTable := #[], attributes := #[] }
def k14m1 : Method := { name := "checkIndex", desc := "(II)I", sig := { parameters := [.int, .int], returnType := some .int }, accessFlags := 9, code := some k14c1 }
/-- java/util/Objects -/
def k14 : Class := { plain "java/util/Objects" (some 0) with
  accessFlags := 49
  interfaces := #[]
  cf := some (fileOf pool14 42 #[] #[{ accessFlags := 2, nameIndex := 5, descriptorIndex := 6, attributes := #[] }, { accessFlags := 9, nameIndex := 109, descriptorIndex := 171, attributes := #[] }] 49 2 #[] #[])
  fields := #[]
  methods := #[k14m0, k14m1]
  instanceTypes := #[]
  staticTypes := #[]
  resolved := Array.replicate 184 none
  statics := none }

def pool15 : Array CpInfo := pool [(2, .class_ 4), (1, u "java/lang/Object"), (0, u "<init>"), (0, u "()V"), (17, .class_ 26), (1, u "jdk/internal/util/Preconditions"), (6, u "checkIndex"), (21, .class_ 56), (0, u "jdk/internal/util/Preconditions$4"), (57, .class_ 115), (0, u "jdk/internal/util/Preconditions$1"), (7, u "SIOOBE_FORMATTER"), (0, u "Ljava/util/function/BiFunction;"), (0, .class_ 126), (0, u "jdk/internal/util/Preconditions$2"), (3, u "AIOOBE_FORMATTER"), (0, .class_ 132), (0, u "jdk/internal/util/Preconditions$3"), (3, u "IOOBE_FORMATTER"), (41, u "(IILjava/util/function/BiFunction;)I")] 15

def k15m0 : Method := { name := "<init>", desc := "()V", sig := { parameters := [], returnType := none }, accessFlags := 1, code := none }
def k15c1 : Code := { maxStack := 3, maxLocals := 3, code := jdk_41_method_11_code, exceptionTable := #[], attributes := #[] }
def k15m1 : Method := { name := "checkIndex", desc := "(IILjava/util/function/BiFunction;)I", sig := { parameters := [.int, .int, (.object "java/util/function/BiFunction")], returnType := some .int }, accessFlags := 9, code := some k15c1 }
/-- jdk/internal/util/Preconditions -/
def k15 : Class := { plain "jdk/internal/util/Preconditions" (some 0) with
  accessFlags := 33
  interfaces := #[]
  cf := some (fileOf pool15 24 #[.nestMembers #[55, 131, 125, 114]] #[{ accessFlags := 1, nameIndex := 5, descriptorIndex := 6, attributes := #[] }, { accessFlags := 9, nameIndex := 33, descriptorIndex := 178, attributes := #[] }] 33 2 #[] #[{ accessFlags := 25, nameIndex := 123, descriptorIndex := 124, attributes := #[] }, { accessFlags := 25, nameIndex := 130, descriptorIndex := 124, attributes := #[] }, { accessFlags := 25, nameIndex := 136, descriptorIndex := 124, attributes := #[] }])
  fields := #[{ name := "SIOOBE_FORMATTER", type := (.object "java/util/function/BiFunction"), accessFlags := 25, slot := 0, constantValue := 0 }, { name := "AIOOBE_FORMATTER", type := (.object "java/util/function/BiFunction"), accessFlags := 25, slot := 1, constantValue := 0 }, { name := "IOOBE_FORMATTER", type := (.object "java/util/function/BiFunction"), accessFlags := 25, slot := 2, constantValue := 0 }]
  methods := #[k15m0, k15m1]
  instanceTypes := #[]
  staticTypes := #[(.object "java/util/function/BiFunction"), (.object "java/util/function/BiFunction"), (.object "java/util/function/BiFunction")]
  resolved := Array.replicate 194 none
  statics := none }

def pool16 : Array CpInfo := pool [(1, u "java/lang/Cloneable"), (0, .class_ 1), (0, u "java/lang/Object"), (0, .class_ 3)] 3

/-- java/lang/Cloneable -/
def k16 : Class := { plain "java/lang/Cloneable" (some 0) with
  accessFlags := 1537
  interfaces := #[]
  cf := some (fileOf pool16 2 #[] #[] 1537 4 #[] #[])
  fields := #[]
  methods := #[]
  instanceTypes := #[]
  staticTypes := #[]
  resolved := Array.replicate 8 none
  statics := none }

/-- the primitive byte -/
def k17 : Class := { plain "byte" none with kind := .primitive 'B', accessFlags := 0x411 }
/-- [B -/
def k18 : Class := { plain "[B" (some 0) with kind := .array 17 .byte, interfaces := #[16, 4], accessFlags := 1041 }

/-- the primitive int -/
def k19 : Class := { plain "int" none with kind := .primitive 'I', accessFlags := 0x411 }
/-- [I -/
def k20 : Class := { plain "[I" (some 0) with kind := .array 19 .int, interfaces := #[16, 4], accessFlags := 1041 }

/-- [Lcom/example/message_ledger/messageledger/wire/ErrorCode; -/
def k21 : Class := { plain "[Lcom/example/message_ledger/messageledger/wire/ErrorCode;" (some 0) with kind := .array 6 (.object "com/example/message_ledger/messageledger/wire/ErrorCode"), interfaces := #[16, 4], accessFlags := 1041 }

def heap : Heap := #[{ cls := 6, slots := #[.ref 3, .ref 4, .ref 5, .ref 6, .ref 7, .ref 8, .ref 9, .ref 10, .ref 11, .ref 12, .ref 13, .ref 14, .ref 15, .ref 16, .ref 17, .ref 18, .ref 19, .ref 20, .ref 21, .null], vm := .statics 6 },
  { cls := 13, slots := #[.ref 2], vm := .statics 13 },
  { cls := 21, slots := #[.ref 3, .ref 4, .ref 5, .ref 6, .ref 7, .ref 8, .ref 9, .ref 10, .ref 11, .ref 12, .ref 13, .ref 14, .ref 15, .ref 16, .ref 17, .ref 18, .ref 19, .ref 20, .ref 21], vm := .none },
  { cls := 6, slots := #[.null, .int 0, .int 0, .int 0], vm := .none },
  { cls := 6, slots := #[.null, .int 1, .int 0, .int 0], vm := .none },
  { cls := 6, slots := #[.null, .int 2, .int 0, .int 0], vm := .none },
  { cls := 6, slots := #[.null, .int 3, .int 0, .int 0], vm := .none },
  { cls := 6, slots := #[.null, .int 4, .int 0, .int 0], vm := .none },
  { cls := 6, slots := #[.null, .int 5, .int 0, .int 0], vm := .none },
  { cls := 6, slots := #[.null, .int 6, .int 0, .int 0], vm := .none },
  { cls := 6, slots := #[.null, .int 7, .int 0, .int 0], vm := .none },
  { cls := 6, slots := #[.null, .int 8, .int 0, .int 0], vm := .none },
  { cls := 6, slots := #[.null, .int 9, .int 0, .int 0], vm := .none },
  { cls := 6, slots := #[.null, .int 10, .int 0, .int 0], vm := .none },
  { cls := 6, slots := #[.null, .int 11, .int 0, .int 0], vm := .none },
  { cls := 6, slots := #[.null, .int 12, .int 0, .int 0], vm := .none },
  { cls := 6, slots := #[.null, .int 13, .int 0, .int 0], vm := .none },
  { cls := 6, slots := #[.null, .int 14, .int 0, .int 0], vm := .none },
  { cls := 6, slots := #[.null, .int 15, .int 0, .int 0], vm := .none },
  { cls := 6, slots := #[.null, .int 16, .int 0, .int 0], vm := .none },
  { cls := 6, slots := #[.null, .int 17, .int 0, .int 0], vm := .none },
  { cls := 6, slots := #[.null, .int 18, .int 0, .int 0], vm := .none }]
def classes : Array Class := #[k0, k1, k2, k3, k4, k5, k6, k7, k8, k9, k10, k11, k12, k13, k14, k15, k16, k17, k18, k19, k20, k21]
def interned : List (Array UInt16 × Addr) := []
def slotsUsed : Nat := 116
def theMethod : MethodId := ⟨1, 2⟩
def args0 : Array Value := #[.int 5, .int 7, .int 3, .int 1]
def aboutOver (below : List Frame) : State where
  vm := { classes := classes, interned := interned.toArray }
  heap := heap
  slotsUsed := slotsUsed
  threads := #[{ frames := .invoking theMethod args0 :: below }]
def below0 : List Frame := [.native { method := ⟨0, 0⟩, args := #[] }]
def about1 : State := aboutOver below0
def p0 : Program := .bare "" "" ""
def e0 : Env := launch0.env 0 0 0
theorem w_frames : about1.frames = Frame.invoking theMethod args0 :: below0 := rfl
set_option maxRecDepth 65536 in
theorem w_args : argsFit about1.vm theMethod args0 = true := by decide +kernel
set_option maxRecDepth 65536 in
theorem w_heap : heapFits about1 = true := by decide +kernel
set_option maxRecDepth 65536 in
theorem w_runnable : about1.curStatus? = some .runnable := by decide +kernel
set_option maxRecDepth 65536 in
theorem w_alone : about1.alone = true := by decide +kernel
set_option maxRecDepth 65536 in
theorem w_named : about1.methodNamed? x = some theMethod := by decide +kernel
set_option maxRecDepth 65536 in
theorem w_hears : about1.hears theMethod below0 = true := by decide +kernel
set_option maxRecDepth 65536 in
theorem w_ripe : about1.ripe theMethod args0 below0 = true := by decide +kernel
theorem w_running : about1.status = .running := rfl
set_option maxRecDepth 65536 in
theorem w_room : about1.hasRoom e0.platform room_1 = true :=
  launch0.hasRoom_least _ room_1 (by decide +kernel) (by decide +kernel) (by decide +kernel) (by decide +kernel) (by decide +kernel) (by decide +kernel)
theorem allAtoms_all (ts : List Jvm.Cond) (a : Array Jvm.Value) (st : Jvm.State) : (allAtoms ts).before a st = ts.all (fun c => c.before a st) := by
  induction ts with
  | nil => rfl
  | cons c t ih =>
    show (Jvm.Cond.and c (allAtoms t)).before a st = _
    rw [Jvm.Cond.before_and, ih, List.all_cons]
def words1 : List Jvm.Cond := Jvm.Cond.code x code maxLocals ret :: tables_1
/-- a 'code' word, met by the world's own term for the bytes: nothing is compared byte by byte -/
theorem code_word {y : MethodName} {bytes : ByteArray} {mx : Nat} {rt : Option FieldType} {a : Array Value} {s : State} {m : MethodId} {meth : Method} {c : Code} (h1 : s.methodNamed? y = some m) (h2 : s.vm.method? m = some meth) (h3 : meth.code = some c) (h4 : c.code = bytes)
    (h5 : (c.maxLocals == mx && c.exceptionTable.isEmpty && decide (c.maxStack ≤ mostOperands) && decide (meth.sig.returnType = rt) && !meth.locks && decide (parseMethodDescriptor y.desc = some meth.sig)) = true) : (Jvm.Cond.code y bytes mx rt).before a s = true := by
  simp only [Bool.and_eq_true, beq_iff_eq, Bool.not_eq_true', decide_eq_true_eq] at h5
  obtain ⟨⟨⟨⟨⟨g1, g2⟩, g3⟩, g4⟩, g5⟩, g6⟩ := h5
  simp [Cond.before, Cond.holds, Cond.value, h1, h2, h3, h4, g1, g2, g3, g4, g5, g6]
def isCode : Jvm.Cond → Bool
  | .code _ _ _ _ => true
  | _ => false
theorem all_split {L : List Jvm.Cond} {P : Jvm.Cond → Bool} (h1 : L.all (fun c => isCode c || P c) = true) (h2 : ∀ c ∈ L.filter isCode, P c = true) : L.all P = true := by
  refine List.all_eq_true.mpr fun c hc => ?_
  have h := List.all_eq_true.mp h1 c hc
  rcases Bool.eq_false_or_eq_true (isCode c) with hi | hi
  · exact h2 c (List.mem_filter.mpr ⟨hc, hi⟩)
  · simpa [hi] using h
set_option maxRecDepth 65536 in
theorem w_c0 : (Jvm.Cond.code x code maxLocals ret).before args0 about1 = true := code_word (m := ⟨1, 2⟩) (meth := k1m2) (c := k1c2) (by decide +kernel) rfl rfl rfl (by decide +kernel)
set_option maxRecDepth 65536 in
theorem w_c1 : (Jvm.Cond.code ({ cls := "com/example/message_ledger/messageledger/requests/ErrorCodeListAddPinLaw", name := "pick", desc := "(I)Lcom/example/message_ledger/messageledger/wire/ErrorCode;" } : Jvm.MethodName) method_2_code (2 : Nat) (Option.some (Jvm.ClassFile.FieldType.object "com/example/message_ledger/messageledger/wire/ErrorCode"))).before args0 about1 = true := code_word (m := ⟨1, 1⟩) (meth := k1m1) (c := k1c1) (by decide +kernel) rfl rfl rfl (by decide +kernel)
set_option maxRecDepth 65536 in
theorem w_c2 : (Jvm.Cond.code ({ cls := "com/example/message_ledger/messageledger/requests/ErrorCodeList", name := "<init>", desc := "(I)V" } : Jvm.MethodName) prog_61_method_1_code (2 : Nat) (Option.none : Option Jvm.ClassFile.FieldType)).before args0 about1 = true := code_word (m := ⟨13, 0⟩) (meth := k13m0) (c := k13c0) (by decide +kernel) rfl rfl rfl (by decide +kernel)
set_option maxRecDepth 65536 in
theorem w_c3 : (Jvm.Cond.code ({ cls := "java/util/AbstractList", name := "<init>", desc := "()V" } : Jvm.MethodName) jdk_39_method_1_code (1 : Nat) (Option.none : Option Jvm.ClassFile.FieldType)).before args0 about1 = true := code_word (m := ⟨12, 0⟩) (meth := k12m0) (c := k12c0) (by decide +kernel) rfl rfl rfl (by decide +kernel)
set_option maxRecDepth 65536 in
theorem w_c4 : (Jvm.Cond.code ({ cls := "java/util/AbstractCollection", name := "<init>", desc := "()V" } : Jvm.MethodName) jdk_22_method_1_code (1 : Nat) (Option.none : Option Jvm.ClassFile.FieldType)).before args0 about1 = true := code_word (m := ⟨9, 0⟩) (meth := k9m0) (c := k9c0) (by decide +kernel) rfl rfl rfl (by decide +kernel)
set_option maxRecDepth 65536 in
theorem w_c5 : (Jvm.Cond.code ({ cls := "java/lang/Object", name := "<init>", desc := "()V" } : Jvm.MethodName) object_method_1_code (1 : Nat) (Option.none : Option Jvm.ClassFile.FieldType)).before args0 about1 = true := code_word (m := ⟨0, 0⟩) (meth := k0m0) (c := k0c0) (by decide +kernel) rfl rfl rfl (by decide +kernel)
set_option maxRecDepth 65536 in
theorem w_c6 : (Jvm.Cond.code ({ cls := "com/example/message_ledger/messageledger/requests/ErrorCodeList", name := "add", desc := "(Lcom/example/message_ledger/messageledger/wire/ErrorCode;)Z" } : Jvm.MethodName) prog_61_method_2_code (2 : Nat) (Option.some Jvm.ClassFile.FieldType.boolean)).before args0 about1 = true := code_word (m := ⟨13, 1⟩) (meth := k13m1) (c := k13c1) (by decide +kernel) rfl rfl rfl (by decide +kernel)
set_option maxRecDepth 65536 in
theorem w_c7 : (Jvm.Cond.code ({ cls := "java/lang/Enum", name := "ordinal", desc := "()I" } : Jvm.MethodName) jdk_37_method_2_code (1 : Nat) (Option.some Jvm.ClassFile.FieldType.int)).before args0 about1 = true := code_word (m := ⟨5, 0⟩) (meth := k5m0) (c := k5c0) (by decide +kernel) rfl rfl rfl (by decide +kernel)
set_option maxRecDepth 65536 in
theorem w_c8 : (Jvm.Cond.code ({ cls := "com/example/message_ledger/messageledger/requests/ErrorCodeList", name := "size", desc := "()I" } : Jvm.MethodName) prog_61_method_4_code (1 : Nat) (Option.some Jvm.ClassFile.FieldType.int)).before args0 about1 = true := code_word (m := ⟨13, 3⟩) (meth := k13m3) (c := k13c3) (by decide +kernel) rfl rfl rfl (by decide +kernel)
set_option maxRecDepth 65536 in
theorem w_c9 : (Jvm.Cond.code ({ cls := "com/example/message_ledger/messageledger/requests/ErrorCodeList", name := "get", desc := "(I)Lcom/example/message_ledger/messageledger/wire/ErrorCode;" } : Jvm.MethodName) prog_61_method_3_code (2 : Nat) (Option.some (Jvm.ClassFile.FieldType.object "com/example/message_ledger/messageledger/wire/ErrorCode"))).before args0 about1 = true := code_word (m := ⟨13, 2⟩) (meth := k13m2) (c := k13c2) (by decide +kernel) rfl rfl rfl (by decide +kernel)
set_option maxRecDepth 65536 in
theorem w_c10 : (Jvm.Cond.code ({ cls := "java/util/Objects", name := "checkIndex", desc := "(II)I" } : Jvm.MethodName) jdk_31_method_17_code (2 : Nat) (Option.some Jvm.ClassFile.FieldType.int)).before args0 about1 = true := code_word (m := ⟨14, 1⟩) (meth := k14m1) (c := k14c1) (by decide +kernel) rfl rfl rfl (by decide +kernel)
set_option maxRecDepth 65536 in
theorem w_c11 : (Jvm.Cond.code ({ cls := "jdk/internal/util/Preconditions", name := "checkIndex", desc := "(IILjava/util/function/BiFunction;)I" } : Jvm.MethodName) jdk_41_method_11_code (3 : Nat) (Option.some Jvm.ClassFile.FieldType.int)).before args0 about1 = true := code_word (m := ⟨15, 1⟩) (meth := k15m1) (c := k15c1) (by decide +kernel) rfl rfl rfl (by decide +kernel)
def codes1 : List Jvm.Cond := [Jvm.Cond.code x code maxLocals ret, Jvm.Cond.code ({ cls := "com/example/message_ledger/messageledger/requests/ErrorCodeListAddPinLaw", name := "pick", desc := "(I)Lcom/example/message_ledger/messageledger/wire/ErrorCode;" } : Jvm.MethodName) method_2_code (2 : Nat) (Option.some (Jvm.ClassFile.FieldType.object "com/example/message_ledger/messageledger/wire/ErrorCode")), Jvm.Cond.code ({ cls := "com/example/message_ledger/messageledger/requests/ErrorCodeList", name := "<init>", desc := "(I)V" } : Jvm.MethodName) prog_61_method_1_code (2 : Nat) (Option.none : Option Jvm.ClassFile.FieldType), Jvm.Cond.code ({ cls := "java/util/AbstractList", name := "<init>", desc := "()V" } : Jvm.MethodName) jdk_39_method_1_code (1 : Nat) (Option.none : Option Jvm.ClassFile.FieldType), Jvm.Cond.code ({ cls := "java/util/AbstractCollection", name := "<init>", desc := "()V" } : Jvm.MethodName) jdk_22_method_1_code (1 : Nat) (Option.none : Option Jvm.ClassFile.FieldType), Jvm.Cond.code ({ cls := "java/lang/Object", name := "<init>", desc := "()V" } : Jvm.MethodName) object_method_1_code (1 : Nat) (Option.none : Option Jvm.ClassFile.FieldType), Jvm.Cond.code ({ cls := "com/example/message_ledger/messageledger/requests/ErrorCodeList", name := "add", desc := "(Lcom/example/message_ledger/messageledger/wire/ErrorCode;)Z" } : Jvm.MethodName) prog_61_method_2_code (2 : Nat) (Option.some Jvm.ClassFile.FieldType.boolean), Jvm.Cond.code ({ cls := "java/lang/Enum", name := "ordinal", desc := "()I" } : Jvm.MethodName) jdk_37_method_2_code (1 : Nat) (Option.some Jvm.ClassFile.FieldType.int), Jvm.Cond.code ({ cls := "com/example/message_ledger/messageledger/requests/ErrorCodeList", name := "size", desc := "()I" } : Jvm.MethodName) prog_61_method_4_code (1 : Nat) (Option.some Jvm.ClassFile.FieldType.int), Jvm.Cond.code ({ cls := "com/example/message_ledger/messageledger/requests/ErrorCodeList", name := "get", desc := "(I)Lcom/example/message_ledger/messageledger/wire/ErrorCode;" } : Jvm.MethodName) prog_61_method_3_code (2 : Nat) (Option.some (Jvm.ClassFile.FieldType.object "com/example/message_ledger/messageledger/wire/ErrorCode")), Jvm.Cond.code ({ cls := "java/util/Objects", name := "checkIndex", desc := "(II)I" } : Jvm.MethodName) jdk_31_method_17_code (2 : Nat) (Option.some Jvm.ClassFile.FieldType.int), Jvm.Cond.code ({ cls := "jdk/internal/util/Preconditions", name := "checkIndex", desc := "(IILjava/util/function/BiFunction;)I" } : Jvm.MethodName) jdk_41_method_11_code (3 : Nat) (Option.some Jvm.ClassFile.FieldType.int)]
set_option maxRecDepth 65536 in
theorem codes_eq : words1.filter isCode = codes1 := rfl
theorem w_codes : ∀ c ∈ words1.filter isCode, c.before args0 about1 = true := by
  rw [codes_eq]
  intro c hc
  simp only [codes1, List.mem_cons, List.not_mem_nil, or_false] at hc
  rcases hc with rfl | rfl | rfl | rfl | rfl | rfl | rfl | rfl | rfl | rfl | rfl | rfl
  · exact w_c0
  · exact w_c1
  · exact w_c2
  · exact w_c3
  · exact w_c4
  · exact w_c5
  · exact w_c6
  · exact w_c7
  · exact w_c8
  · exact w_c9
  · exact w_c10
  · exact w_c11
set_option maxRecDepth 65536 in
theorem w_t1 : (words1.take 24).all (fun c => isCode c || c.before args0 about1) = true := by decide +kernel
set_option maxRecDepth 65536 in
theorem w_t2 : ((words1.drop 24).take 24).all (fun c => isCode c || c.before args0 about1) = true := by decide +kernel
set_option maxRecDepth 65536 in
theorem w_t3 : (((words1.drop 24).drop 24).take 24).all (fun c => isCode c || c.before args0 about1) = true := by decide +kernel
set_option maxRecDepth 65536 in
theorem w_t4 : ((((words1.drop 24).drop 24).drop 24).take 24).all (fun c => isCode c || c.before args0 about1) = true := by decide +kernel
set_option maxRecDepth 65536 in
theorem w_t5 : ((((words1.drop 24).drop 24).drop 24).drop 24).all (fun c => isCode c || c.before args0 about1) = true := by decide +kernel
theorem w_tables : (allAtoms (Jvm.Cond.code x code maxLocals ret :: tables_1)).before args0 about1 = true := by
  rw [allAtoms_all]
  show words1.all (fun c => c.before args0 about1) = true
  refine all_split ?_ w_codes
  rw [← List.take_append_drop 24 words1, List.all_append, w_t1, ← List.take_append_drop 24 (words1.drop 24), List.all_append, w_t2, ← List.take_append_drop 24 ((words1.drop 24).drop 24), List.all_append, w_t3, ← List.take_append_drop 24 (((words1.drop 24).drop 24).drop 24), List.all_append, w_t4, w_t5]
  rfl
set_option maxRecDepth 65536 in
theorem w_case : (Jvm.Cond.and given_1 narrow_1).before args0 about1 = true := by decide +kernel
theorem w_applies : (headSpec (Jvm.Cond.code x code maxLocals ret :: tables_1) room_1).applies x e0.platform about1 = true :=
  (Spec.applies_iff w_frames).mpr ⟨w_running, w_runnable, w_alone, w_named, w_hears, w_ripe, w_room, w_tables⟩
theorem atStart : AtStart classFile x code maxLocals ret World_1 tables_1 room_1 Calls_1 rest_1 Pre_1 launch0 p0 e0 about1 theMethod args0 below0 :=
  ⟨lists_1, trivial, launch0.admits_env _ _ _, launch0.least_env, fairChoices_fair.cas, fairChoices_fair.clock, w_frames, w_args, w_heap, w_applies, trivial, trivial, w_case⟩
end start1
theorem witness_1 : WitnessClaimed_1 := ⟨start1.p0, start1.e0, start1.about1, start1.theMethod, start1.args0, start1.below0, start1.atStart⟩
end Jvm.Pilot.@@N@@
