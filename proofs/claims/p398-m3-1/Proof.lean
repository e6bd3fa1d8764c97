import JvmDerived
import JvmDerived.Pilot.@@N@@Statement
import JvmDerived.Pilot.@@N@@Code
set_option linter.unusedVariables false
set_option linter.unusedSimpArgs false
namespace Jvm.RoadKit
open Sem ClassFile Op Lib Jvm.Stand Jvm.Free Jvm.LawKit
section New
variable {p : Program} {l : Launch} {e : Env} {R : Room} {s : State} {m : MethodId} {args : Array Value} {below : List Frame} {meth : Method} {c : Code} {T : State} {locs : List Loc} {cells slots : Nat}
theorem retI (X : Stand p l e R s m args below meth c T locs cells slots) (hx : p.tables.exec = Jvm.exec) {pc : Nat} {Ls : Array Slot} {z : Int32} {rest : List Value} (hret : meth.sig.returnType = some .int) (hd : decode c.code pc = .ok (.ireturn, 1)) {fs : List Frame}
    (hl : ∀ (f : JFrame) (acts : List Action), f.method = m → f.locked = none → f.entered = [] → (doReturn e (T.setTop f) acts (some (.int z))).1 = T.setFrames fs) : Steps p.tables e below (T.setTop (mkF m pc Ls (.int z :: rest))) (T.setFrames fs) := by
  have hm' : T.vm.method? m = some meth := X.method'
  have hn : narrow .int (.int z) = .int z := rfl
  show Steps p.tables e below (T.setTop { method := m, pc := pc, locals := Ls, stack := _ :: rest, locked := none }) _
  jvm_step X.here [X.here.top, hx, hd, hm', hret, hn]
  first | (intro acts; rw [hl _ acts rfl rfl rfl]) | rw [hl _ _ rfl rfl rfl]
  exact Steps.refl _
end New
theorem own_sta_keep {Z : State} {h h' : Heap} {C n d : String} {v : Value} {ws : List Addr} (F : Sta Z h C n d v) (K : Keep h h' ws) (q : ∀ x ∈ ws, ∀ c : Cell, h[x]? = some c → c.vm.isStatics = false) : Sta Z h' C n d v := by
  obtain ⟨cf, i, k, f, st, cell, h1, h2, h3, h4, h5, h6, h7⟩ := F
  exact ⟨cf, i, k, f, st, cell, h1, h2, h3, h4, K.2.1 st cell h5 (fun hm => by rw [q st hm cell h5] at h6; cases h6), h6, h7⟩
theorem own_plain_Exa {Z : State} {h : Heap} {a : Addr} {C : String} (F : Exa Z h a C) : ∀ c : Cell, h[a]? = some c → c.vm.isStatics = false := fun c hc => by
  obtain ⟨cell, _, h1, -, -, h4, -⟩ := F
  cases h1.symm.trans hc; exact h4
theorem own_plain_Arv {Z : State} {h : Heap} {a : Addr} {k : ClassId} {ty : FieldType} {n : Int32} {vs : List Value} {d : Value} (F : Arv Z h a k ty n vs d) : ∀ c : Cell, h[a]? = some c → c.vm.isStatics = false := fun c hc => by
  obtain ⟨cell, A, -⟩ := F
  cases A.1.symm.trans hc; exact A.plain
end Jvm.RoadKit
namespace Jvm.Pilot.@@N@@
open Jvm Jvm.ClassFile Sem Op Lib Jvm.Free Jvm.Stand Jvm.LawKit Jvm.RoadKit Bundle Jvm.Pilot.@@N@@.Jvm.D
def bI (P : Prop) [Decidable P] : Int32 := if P then 1 else 0
theorem bI_eq {P Q : Prop} [Decidable P] [Decidable Q] : bI P = bI Q ↔ (P ↔ Q) := by unfold bI; by_cases h : P <;> by_cases g : Q <;> simp [h, g]
theorem bI_eq1 {P : Prop} [Decidable P] : bI P = 1 ↔ P := by unfold bI; by_cases h : P <;> simp [h]
theorem bI_1eq {P : Prop} [Decidable P] : 1 = bI P ↔ P := by unfold bI; by_cases h : P <;> simp [h]
theorem bI_eq0 {P : Prop} [Decidable P] : bI P = 0 ↔ (P ↔ False) := by unfold bI; by_cases h : P <;> simp [h]
theorem bI_0eq {P : Prop} [Decidable P] : 0 = bI P ↔ (False ↔ P) := by unfold bI; by_cases h : P <;> simp [h]
theorem bI_t {P : Prop} [Decidable P] (h : P) : bI P = 1 := if_pos h
theorem bI_f {P : Prop} [Decidable P] (h : ¬ P) : bI P = 0 := if_neg h
theorem bI_iff {P Q : Prop} [Decidable P] [Decidable Q] (h : P ↔ Q) : bI P = bI Q := bI_eq.mpr h
theorem imp_iff_h {P Q : Prop} (h : P) : (P → Q) ↔ Q := ⟨fun f => f h, fun q _ => q⟩
theorem sel_t {P A B : Prop} (h : P) : ((P ∧ A) ∨ (¬ P ∧ B)) ↔ A := ⟨fun q => q.elim (fun z => z.2) (fun z => absurd h z.1), fun a => Or.inl ⟨h, a⟩⟩
theorem sel_f {P A B : Prop} (h : ¬ P) : ((P ∧ A) ∨ (¬ P ∧ B)) ↔ B := ⟨fun q => q.elim (fun z => absurd z.1 h) (fun z => z.2), fun b => Or.inr ⟨h, b⟩⟩
theorem bB_eq_t {P : Prop} [Decidable P] (h : ¬ P) : ifCond.holds .eq (bI P) = true := by rw [bI_f h]; rfl
theorem bB_eq_f {P : Prop} [Decidable P] (h : P) : ifCond.holds .eq (bI P) = false := by rw [bI_t h]; rfl
theorem bB_ne_t {P : Prop} [Decidable P] (h : P) : ifCond.holds .ne (bI P) = true := by rw [bI_t h]; rfl
theorem bB_ne_f {P : Prop} [Decidable P] (h : ¬ P) : ifCond.holds .ne (bI P) = false := by rw [bI_f h]; rfl
theorem bI_nar {P : Prop} [Decidable P] : nar .boolean (bI P) = bI P := by by_cases h : P <;> simp only [bI, h, if_true, if_false] <;> rfl
theorem bI_ret {P : Prop} [Decidable P] : (some (.int (nar .boolean (bI P))) : Option Value) = some (.int (bI P)) := by rw [bI_nar]
theorem bI_one {P : Prop} [Decidable P] (h : P) : (some (.int (nar .boolean (bI P))) : Option Value) = some (.int 1) := by rw [bI_nar, bI_t h]
theorem own_ite_ref {P : Prop} [Decidable P] {x y : Value} (h : x.isRef = true) (g : y.isRef = true) : (if P then x else y).isRef = true := by by_cases q : P <;> simp [q, h, g]
theorem own_fits_ref {t : FieldType} {x : Value} (ht : t.isReference = true) (h : x.isRef = true) : fits t x = true := by cases t <;> first | (cases ht; done) | (cases x <;> simp_all [fits, Value.isRef])
theorem own_eqI {args : Array Value} {s : State} {t : Term} {k : Int32} (h : (Cond.eq t (.int k)).value args s none s [] = some true) : t.eval args s none [] s = some (.int k) := by
  simp only [Cond.value, Term.eval] at h
  cases ht : t.eval args s none [] s with
  | none => simp [ht] at h
  | some v => cases v <;> simp [ht] at h ⊢; exact h
theorem own_eqR {args : Array Value} {s : State} {t u : Term} {v : Value} (hu : u.eval args s none [] s = some v) (hv : v.isRef = true) (h : (Cond.eq t u).value args s none s [] = some true) : t.eval args s none [] s = some v := by
  cases ht : t.eval args s none [] s with
  | none => simp [Cond.value, ht, hu] at h
  | some x =>
    rcases ref_cases hv with rfl | ⟨a, rfl⟩ <;> cases x <;> simp [Cond.value, ht, hu] at h ⊢ <;> exact h
theorem own_len {args : Array Value} {s : State} {t : Term} {a : Addr} {c : Cell} {ty : FieldType} {k : Int32} (ev : t.eval args s none [] s = some (.ref a)) (A : Arr s s.heap a c ty) (h : (Term.length t).eval args s none [] s = some (.int k)) : c.slots.size < 2 ^ 31 ∧ c.slots.size.toInt32 = k := by
  have ha := A.fin (Vm.Alike.refl _)
  by_cases q : c.slots.size < 2 ^ 31
  · rw [len_f ev ha q] at h; exact ⟨q, by injection h with h; injection h⟩
  · simp [Term.eval, ev, ha, q] at h


def own_ix (k : Int32) (i0 i1 i2 i3 : Addr) : Addr := if k = (0 : Int32) then i0 else if k = (1 : Int32) then i1 else if k = (2 : Int32) then i2 else i3
def own_ty (c : Int32) (t0 t1 t2 t3 t4 t5 t6 t7 t8 t9 t10 t11 t12 t13 : Addr) : Addr := if c = (0 : Int32) then t0 else if c = (1 : Int32) then t1 else if c = (2 : Int32) then t2 else if c = (3 : Int32) then t3 else if c = (4 : Int32) then t4 else if c = (5 : Int32) then t5 else if c = (6 : Int32) then t6 else if c = (7 : Int32) then t7 else if c = (8 : Int32) then t8 else if c = (9 : Int32) then t9 else if c = (10 : Int32) then t10 else if c = (11 : Int32) then t11 else if c = (12 : Int32) then t12 else t13
theorem own_ix_all {M : Addr → Prop} {k : Int32} {i0 i1 i2 i3 : Addr} (h0 : M i0) (h1 : M i1) (h2 : M i2) (h3 : M i3) : M (own_ix k i0 i1 i2 i3) := by
  unfold own_ix
  by_cases q0 : k = (0 : Int32)
  · rw [if_pos q0]; exact h0
  · rw [if_neg q0]
    by_cases q1 : k = (1 : Int32)
    · rw [if_pos q1]; exact h1
    · rw [if_neg q1]
      by_cases q2 : k = (2 : Int32)
      · rw [if_pos q2]; exact h2
      · rw [if_neg q2]; exact h3
def own_on (k : Int32) (t4 : Addr) : Value := if k = (3 : Int32) then .ref t4 else .null
theorem own_on_ref {k : Int32} {t4 : Addr} : (own_on k t4).isRef = true := own_ite_ref rfl rfl
theorem own_ix_only {Z : State} {h : Heap} {C n d : String} {k : Int32} {i0 i1 i2 i3 t4 : Addr} (hk : k = 0 ∨ k = 1 ∨ k = 2 ∨ k = 3) (h0 : Fld Z h i0 C n d .null) (h1 : Fld Z h i1 C n d .null) (h2 : Fld Z h i2 C n d .null) (h3 : Fld Z h i3 C n d (.ref t4)) : Fld Z h (own_ix k i0 i1 i2 i3) C n d (own_on k t4) := by
  rcases hk with rfl | rfl | rfl | rfl
  · exact h0
  · exact h1
  · exact h2
  · exact h3
theorem own_k (p : Int32) : (p &&& (3 : Int32)) = 0 ∨ (p &&& (3 : Int32)) = 1 ∨ (p &&& (3 : Int32)) = 2 ∨ (p &&& (3 : Int32)) = 3 := by
  have m := c_mask p (3 : Int32) 2 (by decide) (by decide)
  have pw : ((2 ^ 2 : Nat) : Int) = 4 := rfl
  rw [pw] at m
  generalize (p &&& (3 : Int32)) = u at *
  have k : u.toInt = 0 ∨ u.toInt = 1 ∨ u.toInt = 2 ∨ u.toInt = 3 := by omega
  rcases k with k | k | k | k
  · exact Or.inl (Int32.toInt_inj.mp k)
  · exact Or.inr (Or.inl (Int32.toInt_inj.mp k))
  · exact Or.inr (Or.inr (Or.inl (Int32.toInt_inj.mp k)))
  · exact Or.inr (Or.inr (Or.inr (Int32.toInt_inj.mp k)))
theorem own_ty4 {c : Int32} {t0 t1 t2 t3 t4 t5 t6 t7 t8 t9 t10 t11 t12 t13 : Addr} (nq0 : t4 ≠ t0) (nq1 : t4 ≠ t1) (nq2 : t4 ≠ t2) (nq3 : t4 ≠ t3) (nq5 : t4 ≠ t5) (nq6 : t4 ≠ t6) (nq7 : t4 ≠ t7) (nq8 : t4 ≠ t8) (nq9 : t4 ≠ t9) (nq10 : t4 ≠ t10) (nq11 : t4 ≠ t11) (nq12 : t4 ≠ t12) (nq13 : t4 ≠ t13) : t4 = own_ty c t0 t1 t2 t3 t4 t5 t6 t7 t8 t9 t10 t11 t12 t13 ↔ c = (4 : Int32) := by
  constructor
  · intro h
    unfold own_ty at h
    by_cases q0 : c = (0 : Int32)
    · rw [if_pos q0] at h; exact absurd h nq0
    rw [if_neg q0] at h
    by_cases q1 : c = (1 : Int32)
    · rw [if_pos q1] at h; exact absurd h nq1
    rw [if_neg q1] at h
    by_cases q2 : c = (2 : Int32)
    · rw [if_pos q2] at h; exact absurd h nq2
    rw [if_neg q2] at h
    by_cases q3 : c = (3 : Int32)
    · rw [if_pos q3] at h; exact absurd h nq3
    rw [if_neg q3] at h
    by_cases q4 : c = (4 : Int32)
    · exact q4
    rw [if_neg q4] at h
    by_cases q5 : c = (5 : Int32)
    · rw [if_pos q5] at h; exact absurd h nq5
    rw [if_neg q5] at h
    by_cases q6 : c = (6 : Int32)
    · rw [if_pos q6] at h; exact absurd h nq6
    rw [if_neg q6] at h
    by_cases q7 : c = (7 : Int32)
    · rw [if_pos q7] at h; exact absurd h nq7
    rw [if_neg q7] at h
    by_cases q8 : c = (8 : Int32)
    · rw [if_pos q8] at h; exact absurd h nq8
    rw [if_neg q8] at h
    by_cases q9 : c = (9 : Int32)
    · rw [if_pos q9] at h; exact absurd h nq9
    rw [if_neg q9] at h
    by_cases q10 : c = (10 : Int32)
    · rw [if_pos q10] at h; exact absurd h nq10
    rw [if_neg q10] at h
    by_cases q11 : c = (11 : Int32)
    · rw [if_pos q11] at h; exact absurd h nq11
    rw [if_neg q11] at h
    by_cases q12 : c = (12 : Int32)
    · rw [if_pos q12] at h; exact absurd h nq12
    rw [if_neg q12] at h
    exact absurd h nq13
  · rintro rfl; rfl
theorem own_end {k c : Int32} {t0 t1 t2 t3 t4 t5 t6 t7 t8 t9 t10 t11 t12 t13 : Addr} (nq0 : t4 ≠ t0) (nq1 : t4 ≠ t1) (nq2 : t4 ≠ t2) (nq3 : t4 ≠ t3) (nq5 : t4 ≠ t5) (nq6 : t4 ≠ t6) (nq7 : t4 ≠ t7) (nq8 : t4 ≠ t8) (nq9 : t4 ≠ t9) (nq10 : t4 ≠ t10) (nq11 : t4 ≠ t11) (nq12 : t4 ≠ t12) (nq13 : t4 ≠ t13) : (((own_on k t4 : Value) = .null) ∨ ((own_on k t4 : Value) = .ref (own_ty c t0 t1 t2 t3 t4 t5 t6 t7 t8 t9 t10 t11 t12 t13))) ↔ ((k = (3 : Int32)) → (c = (4 : Int32))) := by
  have e := own_ty4 (c := c) nq0 nq1 nq2 nq3 nq5 nq6 nq7 nq8 nq9 nq10 nq11 nq12 nq13
  by_cases q : k = (3 : Int32)
  · subst q
    constructor
    · rintro (h | h) _
      · cases h
      · exact e.mp (Value.ref.inj h)
    · intro h; exact Or.inr (congrArg Value.ref (e.mpr (h rfl)))
  · constructor
    · intro _ h; exact absurd h q
    · intro _; left; unfold own_on; rw [if_neg q]

theorem d1_0 : decode method_3_code 0 = .ok (.iload_n 0, 1) := by decide +kernel
theorem d1_1 : decode method_3_code 1 = .ok (.ifCond .ne 7, 3) := by decide +kernel
theorem d1_4 : decode method_3_code 4 = .ok (.getstatic 24, 3) := by decide +kernel
theorem d1_7 : decode method_3_code 7 = .ok (.areturn, 1) := by decide +kernel
theorem d1_8 : decode method_3_code 8 = .ok (.iload_n 0, 1) := by decide +kernel
theorem d1_9 : decode method_3_code 9 = .ok (.iconst 1, 1) := by decide +kernel
theorem d1_10 : decode method_3_code 10 = .ok (.if_icmp .ne 7, 3) := by decide +kernel
theorem d1_13 : decode method_3_code 13 = .ok (.getstatic 28, 3) := by decide +kernel
theorem d1_16 : decode method_3_code 16 = .ok (.areturn, 1) := by decide +kernel
theorem d1_17 : decode method_3_code 17 = .ok (.iload_n 0, 1) := by decide +kernel
theorem d1_18 : decode method_3_code 18 = .ok (.iconst 2, 1) := by decide +kernel
theorem d1_19 : decode method_3_code 19 = .ok (.if_icmp .ne 7, 3) := by decide +kernel
theorem d1_22 : decode method_3_code 22 = .ok (.getstatic 31, 3) := by decide +kernel
theorem d1_25 : decode method_3_code 25 = .ok (.areturn, 1) := by decide +kernel
theorem d1_26 : decode method_3_code 26 = .ok (.getstatic 34, 3) := by decide +kernel
theorem d1_29 : decode method_3_code 29 = .ok (.areturn, 1) := by decide +kernel
theorem pn_1 : plainName "com/example/fir/fir/core/IndexHoldsPinLaw" = true := by first | (simp [plainName, overriddenIn]; done) | decide +kernel
theorem ef_rmI (m : MethodId) (x0 : Int32) : entryFrame m #[(.int x0)] 1 = mkF m 0 #[.val (.int x0)] [] := by first | (simp [entryFrame, mkF, argsToLocals, Value.category]; done) | rfl
def QI (Z : State) (k : Int32) (i0 : Addr) (i1 : Addr) (i2 : Addr) (i3 : Addr) (h0 : Heap) (n0 : Nat) (v : Option Value) (h : Heap) (L : List Loc) : Prop := v = some (.ref (own_ix k i0 i1 i2 i3)) ∧ Fr n0 L ∧ h = h0
set_option maxRecDepth 65536 in
set_option maxHeartbeats 40000000 in
theorem rmI (l : Launch) (Z : State) (a0 : Array Value) (hw : ∀ d ∈ tables_1, d.before a0 Z = true) (ws : List Jvm.Cond) (k : Int32) (i0 : Addr) (i1 : Addr) (i2 : Addr) (i3 : Addr) (h0 : Heap) (n0 : Nat) (Z0 : n0 ≤ h0.size) (S_EAVT : Sta Z h0 "com/example/fir/fir/core/Index" "EAVT" "Lcom/example/fir/fir/core/Index;" (.ref i0)) (S_AEVT : Sta Z h0 "com/example/fir/fir/core/Index" "AEVT" "Lcom/example/fir/fir/core/Index;" (.ref i1)) (S_AVET : Sta Z h0 "com/example/fir/fir/core/Index" "AVET" "Lcom/example/fir/fir/core/Index;" (.ref i2)) (S_VAET : Sta Z h0 "com/example/fir/fir/core/Index" "VAET" "Lcom/example/fir/fir/core/Index;" (.ref i3)) :
    MetFree l (⟨"com/example/fir/fir/core/IndexHoldsPinLaw", "index", "(I)Lcom/example/fir/fir/core/Index;"⟩ : MethodName) (head1 (Jvm.Cond.code (⟨"com/example/fir/fir/core/IndexHoldsPinLaw", "index", "(I)Lcom/example/fir/fir/core/Index;"⟩ : MethodName) method_3_code 1 (some (.object "com/example/fir/fir/core/Index")) :: ws) ({ frames := 0, cells := 0, slots := 0, locals := 0 } : Room)) (fun ar UU => ar = #[(.int k)] ∧ Z.Warmed39 UU.vm ∧ UU.heap = h0) (fun _ _ _ _ _ => True) (fun _ UU oo UU' => ∃ vv LL, oo = .returned vv ∧ QI Z k i0 i1 i2 i3 h0 n0 vv UU'.heap LL ∧ FrameEnd UU oo UU' LL ({ frames := 0, cells := 0, slots := 0, locals := 0 } : Room).cells ({ frames := 0, cells := 0, slots := 0, locals := 0 } : Room).slots) := by
  refine MetFree.of_bodySF (plainFor_of_name pn_1) hisR ?_
  intro p e s m args below meth c s₁ Bd hml0 hP hK
  obtain ⟨rfl, hZ, hh⟩ := hP
  have hx := Bd.exec
  have hby := Bd.bytes
  have hml : c.maxLocals = 1 := hml0
  have hown : s.vm.findClass "com/example/fir/fir/core/IndexHoldsPinLaw" = some m.cls := findClass_of_methodNamed Bd.named
  have hnm := (name_of_methodNamed Bd.named Bd.method).1
  have X0 : Stand p l e ({ frames := 0, cells := 0, slots := 0, locals := 0 } : Room) s m #[(.int k)] below meth c s₁ [] 0 0 := Stand.of_body Bd
  have e0 : s₁.heap = h0 := by rw [← hh, Bd.state]; rfl
  have N0 := Fr.nil n0
  have KC0 : Keep h0 h0 [] := Keep.refl h0 []
  have pre0 : ∀ tgt, Steps p.tables e below (s₁.setTop (mkF m 0 #[.val (.int k)] [])) tgt → Steps p.tables e below (s₁.setTop (entryFrame m #[(.int k)] 1)) tgt := fun tgt kk => castTop (ef_rmI m (k)) kk
  have pre1 : ∀ tgt, Steps p.tables e below (s₁.setTop (mkF m 1 #[.val (.int k)] [(.int k)])) tgt → Steps p.tables e below (s₁.setTop (entryFrame m #[(.int k)] 1)) tgt := by
    intro tgt kk
    refine pre0 tgt ?_
    refine XS.iloadN X0.here hx rfl (hb hby d1_0) rfl ?_
    show Steps p.tables e below (s₁.setTop (mkF m 1 #[.val (.int k)] [(.int k)])) _
    exact kk
  by_cases hc1_2 : k = (0 : Int32)
  · skip
    have pre3 : ∀ tgt, Steps p.tables e below (s₁.setTop (mkF m 4 #[.val (.int k)] [])) tgt → Steps p.tables e below (s₁.setTop (entryFrame m #[(.int k)] 1)) tgt := by
      intro tgt kk
      refine pre1 tgt ?_
      refine XS.ifNo X0.here hx rfl (hb hby d1_1) rfl (XT.i0_ne_f hc1_2) ?_
      show Steps p.tables e below (s₁.setTop (mkF m 4 #[.val (.int k)] [])) _
      exact kk
    obtain ⟨T4, X4, e4, st4⟩ := getS X0 hx hZ hown (host := "") (hw _ (List.mem_of_getElem? (i := 5) rfl)) Via.refl e0 S_EAVT (g := (mkF m 4 #[.val (.int k)] [])) rfl (hb hby d1_4)
    obtain ⟨fs, hr, hrun, hended, hW, hsame⟩ := X4.leave (v := some (.ref i0)) (fun h => by rw [Bd.returns] at h; cases h)
    refine ⟨_, _, pre3 _ ?_, hrun, hended, _, _, rfl, ?_, ⟨_, rfl⟩, hW, hsame.mono (by decide) (by decide)⟩
    · skip
      refine st4 _ ?_
      show Steps p.tables e below (T4.setTop (mkF m 7 #[.val (.int k)] [(.ref i0)])) _
      exact retOut X4 hx Bd.returns rfl (Or.inr (Or.inr (Or.inr (Or.inr ⟨rfl, rfl, rfl⟩)))) (hb hby d1_7) hr
    · show QI Z k i0 i1 i2 i3 h0 n0 _ T4.heap _
      rw [e4]
      exact ⟨by unfold own_ix; rw [if_pos hc1_2], N0, rfl⟩
  · skip
    have pre5 : ∀ tgt, Steps p.tables e below (s₁.setTop (mkF m 10 #[.val (.int k)] [(.int (1 : Int32)), (.int k)])) tgt → Steps p.tables e below (s₁.setTop (entryFrame m #[(.int k)] 1)) tgt := by
      intro tgt kk
      refine pre1 tgt ?_
      refine XS.ifYes X0.here hx rfl (pc0 := 1) (pc' := 8) rfl (hb hby d1_1) rfl (XT.i0_ne_t hc1_2) (by decide) (by decide) ?_
      show Steps p.tables e below (s₁.setTop (mkF m 8 #[.val (.int k)] [])) _
      refine XS.iloadN X0.here hx rfl (hb hby d1_8) rfl ?_
      show Steps p.tables e below (s₁.setTop (mkF m 9 #[.val (.int k)] [(.int k)])) _
      refine XS.iconst X0.here hx rfl (hb hby d1_9) ?_
      show Steps p.tables e below (s₁.setTop (mkF m 10 #[.val (.int k)] [(.int (1 : Int32)), (.int k)])) _
      exact kk
    by_cases hc10_6 : k = (1 : Int32)
    · skip
      have pre7 : ∀ tgt, Steps p.tables e below (s₁.setTop (mkF m 13 #[.val (.int k)] [])) tgt → Steps p.tables e below (s₁.setTop (entryFrame m #[(.int k)] 1)) tgt := by
        intro tgt kk
        refine pre5 tgt ?_
        refine XS.icmpNo X0.here hx rfl (hb hby d1_10) rfl (XT.ii_ne_f hc10_6) ?_
        show Steps p.tables e below (s₁.setTop (mkF m 13 #[.val (.int k)] [])) _
        exact kk
      obtain ⟨T8, X8, e8, st8⟩ := getS X0 hx hZ hown (host := "") (hw _ (List.mem_of_getElem? (i := 31) rfl)) Via.refl e0 S_AEVT (g := (mkF m 13 #[.val (.int k)] [])) rfl (hb hby d1_13)
      obtain ⟨fs, hr, hrun, hended, hW, hsame⟩ := X8.leave (v := some (.ref i1)) (fun h => by rw [Bd.returns] at h; cases h)
      refine ⟨_, _, pre7 _ ?_, hrun, hended, _, _, rfl, ?_, ⟨_, rfl⟩, hW, hsame.mono (by decide) (by decide)⟩
      · skip
        refine st8 _ ?_
        show Steps p.tables e below (T8.setTop (mkF m 16 #[.val (.int k)] [(.ref i1)])) _
        exact retOut X8 hx Bd.returns rfl (Or.inr (Or.inr (Or.inr (Or.inr ⟨rfl, rfl, rfl⟩)))) (hb hby d1_16) hr
      · show QI Z k i0 i1 i2 i3 h0 n0 _ T8.heap _
        rw [e8]
        exact ⟨by unfold own_ix; rw [if_neg hc1_2, if_pos hc10_6], N0, rfl⟩
    · skip
      have pre9 : ∀ tgt, Steps p.tables e below (s₁.setTop (mkF m 19 #[.val (.int k)] [(.int (2 : Int32)), (.int k)])) tgt → Steps p.tables e below (s₁.setTop (entryFrame m #[(.int k)] 1)) tgt := by
        intro tgt kk
        refine pre5 tgt ?_
        refine XS.icmpYes X0.here hx rfl (pc0 := 10) (pc' := 17) rfl (hb hby d1_10) rfl (XT.ii_ne_t hc10_6) (by decide) (by decide) ?_
        show Steps p.tables e below (s₁.setTop (mkF m 17 #[.val (.int k)] [])) _
        refine XS.iloadN X0.here hx rfl (hb hby d1_17) rfl ?_
        show Steps p.tables e below (s₁.setTop (mkF m 18 #[.val (.int k)] [(.int k)])) _
        refine XS.iconst X0.here hx rfl (hb hby d1_18) ?_
        show Steps p.tables e below (s₁.setTop (mkF m 19 #[.val (.int k)] [(.int (2 : Int32)), (.int k)])) _
        exact kk
      by_cases hc19_10 : k = (2 : Int32)
      · skip
        have pre11 : ∀ tgt, Steps p.tables e below (s₁.setTop (mkF m 22 #[.val (.int k)] [])) tgt → Steps p.tables e below (s₁.setTop (entryFrame m #[(.int k)] 1)) tgt := by
          intro tgt kk
          refine pre9 tgt ?_
          refine XS.icmpNo X0.here hx rfl (hb hby d1_19) rfl (XT.ii_ne_f hc19_10) ?_
          show Steps p.tables e below (s₁.setTop (mkF m 22 #[.val (.int k)] [])) _
          exact kk
        obtain ⟨T12, X12, e12, st12⟩ := getS X0 hx hZ hown (host := "") (hw _ (List.mem_of_getElem? (i := 21) rfl)) Via.refl e0 S_AVET (g := (mkF m 22 #[.val (.int k)] [])) rfl (hb hby d1_22)
        obtain ⟨fs, hr, hrun, hended, hW, hsame⟩ := X12.leave (v := some (.ref i2)) (fun h => by rw [Bd.returns] at h; cases h)
        refine ⟨_, _, pre11 _ ?_, hrun, hended, _, _, rfl, ?_, ⟨_, rfl⟩, hW, hsame.mono (by decide) (by decide)⟩
        · skip
          refine st12 _ ?_
          show Steps p.tables e below (T12.setTop (mkF m 25 #[.val (.int k)] [(.ref i2)])) _
          exact retOut X12 hx Bd.returns rfl (Or.inr (Or.inr (Or.inr (Or.inr ⟨rfl, rfl, rfl⟩)))) (hb hby d1_25) hr
        · show QI Z k i0 i1 i2 i3 h0 n0 _ T12.heap _
          rw [e12]
          exact ⟨by unfold own_ix; rw [if_neg hc1_2, if_neg hc10_6, if_pos hc19_10], N0, rfl⟩
      · skip
        have pre13 : ∀ tgt, Steps p.tables e below (s₁.setTop (mkF m 26 #[.val (.int k)] [])) tgt → Steps p.tables e below (s₁.setTop (entryFrame m #[(.int k)] 1)) tgt := by
          intro tgt kk
          refine pre9 tgt ?_
          refine XS.icmpYes X0.here hx rfl (pc0 := 19) (pc' := 26) rfl (hb hby d1_19) rfl (XT.ii_ne_t hc19_10) (by decide) (by decide) ?_
          show Steps p.tables e below (s₁.setTop (mkF m 26 #[.val (.int k)] [])) _
          exact kk
        obtain ⟨T14, X14, e14, st14⟩ := getS X0 hx hZ hown (host := "") (hw _ (List.mem_of_getElem? (i := 37) rfl)) Via.refl e0 S_VAET (g := (mkF m 26 #[.val (.int k)] [])) rfl (hb hby d1_26)
        obtain ⟨fs, hr, hrun, hended, hW, hsame⟩ := X14.leave (v := some (.ref i3)) (fun h => by rw [Bd.returns] at h; cases h)
        refine ⟨_, _, pre13 _ ?_, hrun, hended, _, _, rfl, ?_, ⟨_, rfl⟩, hW, hsame.mono (by decide) (by decide)⟩
        · skip
          refine st14 _ ?_
          show Steps p.tables e below (T14.setTop (mkF m 29 #[.val (.int k)] [(.ref i3)])) _
          exact retOut X14 hx Bd.returns rfl (Or.inr (Or.inr (Or.inr (Or.inr ⟨rfl, rfl, rfl⟩)))) (hb hby d1_29) hr
        · show QI Z k i0 i1 i2 i3 h0 n0 _ T14.heap _
          rw [e14]
          exact ⟨by unfold own_ix; rw [if_neg hc1_2, if_neg hc10_6, if_neg hc19_10], N0, rfl⟩
theorem d2_0 : decode method_4_code 0 = .ok (.iload_n 0, 1) := by decide +kernel
theorem d2_1 : decode method_4_code 1 = .ok (.ifCond .ne 7, 3) := by decide +kernel
theorem d2_4 : decode method_4_code 4 = .ok (.getstatic 37, 3) := by decide +kernel
theorem d2_7 : decode method_4_code 7 = .ok (.areturn, 1) := by decide +kernel
theorem d2_8 : decode method_4_code 8 = .ok (.iload_n 0, 1) := by decide +kernel
theorem d2_9 : decode method_4_code 9 = .ok (.iconst 1, 1) := by decide +kernel
theorem d2_10 : decode method_4_code 10 = .ok (.if_icmp .ne 7, 3) := by decide +kernel
theorem d2_13 : decode method_4_code 13 = .ok (.getstatic 43, 3) := by decide +kernel
theorem d2_16 : decode method_4_code 16 = .ok (.areturn, 1) := by decide +kernel
theorem d2_17 : decode method_4_code 17 = .ok (.iload_n 0, 1) := by decide +kernel
theorem d2_18 : decode method_4_code 18 = .ok (.iconst 2, 1) := by decide +kernel
theorem d2_19 : decode method_4_code 19 = .ok (.if_icmp .ne 7, 3) := by decide +kernel
theorem d2_22 : decode method_4_code 22 = .ok (.getstatic 46, 3) := by decide +kernel
theorem d2_25 : decode method_4_code 25 = .ok (.areturn, 1) := by decide +kernel
theorem d2_26 : decode method_4_code 26 = .ok (.iload_n 0, 1) := by decide +kernel
theorem d2_27 : decode method_4_code 27 = .ok (.iconst 3, 1) := by decide +kernel
theorem d2_28 : decode method_4_code 28 = .ok (.if_icmp .ne 7, 3) := by decide +kernel
theorem d2_31 : decode method_4_code 31 = .ok (.getstatic 49, 3) := by decide +kernel
theorem d2_34 : decode method_4_code 34 = .ok (.areturn, 1) := by decide +kernel
theorem d2_35 : decode method_4_code 35 = .ok (.iload_n 0, 1) := by decide +kernel
theorem d2_36 : decode method_4_code 36 = .ok (.iconst 4, 1) := by decide +kernel
theorem d2_37 : decode method_4_code 37 = .ok (.if_icmp .ne 7, 3) := by decide +kernel
theorem d2_40 : decode method_4_code 40 = .ok (.getstatic 52, 3) := by decide +kernel
theorem d2_43 : decode method_4_code 43 = .ok (.areturn, 1) := by decide +kernel
theorem d2_44 : decode method_4_code 44 = .ok (.iload_n 0, 1) := by decide +kernel
theorem d2_45 : decode method_4_code 45 = .ok (.iconst 5, 1) := by decide +kernel
theorem d2_46 : decode method_4_code 46 = .ok (.if_icmp .ne 7, 3) := by decide +kernel
theorem d2_49 : decode method_4_code 49 = .ok (.getstatic 55, 3) := by decide +kernel
theorem d2_52 : decode method_4_code 52 = .ok (.areturn, 1) := by decide +kernel
theorem d2_53 : decode method_4_code 53 = .ok (.iload_n 0, 1) := by decide +kernel
theorem d2_54 : decode method_4_code 54 = .ok (.bipush 6, 2) := by decide +kernel
theorem d2_56 : decode method_4_code 56 = .ok (.if_icmp .ne 7, 3) := by decide +kernel
theorem d2_59 : decode method_4_code 59 = .ok (.getstatic 58, 3) := by decide +kernel
theorem d2_62 : decode method_4_code 62 = .ok (.areturn, 1) := by decide +kernel
theorem d2_63 : decode method_4_code 63 = .ok (.iload_n 0, 1) := by decide +kernel
theorem d2_64 : decode method_4_code 64 = .ok (.bipush 7, 2) := by decide +kernel
theorem d2_66 : decode method_4_code 66 = .ok (.if_icmp .ne 7, 3) := by decide +kernel
theorem d2_69 : decode method_4_code 69 = .ok (.getstatic 61, 3) := by decide +kernel
theorem d2_72 : decode method_4_code 72 = .ok (.areturn, 1) := by decide +kernel
theorem d2_73 : decode method_4_code 73 = .ok (.iload_n 0, 1) := by decide +kernel
theorem d2_74 : decode method_4_code 74 = .ok (.bipush 8, 2) := by decide +kernel
theorem d2_76 : decode method_4_code 76 = .ok (.if_icmp .ne 7, 3) := by decide +kernel
theorem d2_79 : decode method_4_code 79 = .ok (.getstatic 64, 3) := by decide +kernel
theorem d2_82 : decode method_4_code 82 = .ok (.areturn, 1) := by decide +kernel
theorem d2_83 : decode method_4_code 83 = .ok (.iload_n 0, 1) := by decide +kernel
theorem d2_84 : decode method_4_code 84 = .ok (.bipush 9, 2) := by decide +kernel
theorem d2_86 : decode method_4_code 86 = .ok (.if_icmp .ne 7, 3) := by decide +kernel
theorem d2_89 : decode method_4_code 89 = .ok (.getstatic 67, 3) := by decide +kernel
theorem d2_92 : decode method_4_code 92 = .ok (.areturn, 1) := by decide +kernel
theorem d2_93 : decode method_4_code 93 = .ok (.iload_n 0, 1) := by decide +kernel
theorem d2_94 : decode method_4_code 94 = .ok (.bipush 10, 2) := by decide +kernel
theorem d2_96 : decode method_4_code 96 = .ok (.if_icmp .ne 7, 3) := by decide +kernel
theorem d2_99 : decode method_4_code 99 = .ok (.getstatic 70, 3) := by decide +kernel
theorem d2_102 : decode method_4_code 102 = .ok (.areturn, 1) := by decide +kernel
theorem d2_103 : decode method_4_code 103 = .ok (.iload_n 0, 1) := by decide +kernel
theorem d2_104 : decode method_4_code 104 = .ok (.bipush 11, 2) := by decide +kernel
theorem d2_106 : decode method_4_code 106 = .ok (.if_icmp .ne 7, 3) := by decide +kernel
theorem d2_109 : decode method_4_code 109 = .ok (.getstatic 73, 3) := by decide +kernel
theorem d2_112 : decode method_4_code 112 = .ok (.areturn, 1) := by decide +kernel
theorem d2_113 : decode method_4_code 113 = .ok (.iload_n 0, 1) := by decide +kernel
theorem d2_114 : decode method_4_code 114 = .ok (.bipush 12, 2) := by decide +kernel
theorem d2_116 : decode method_4_code 116 = .ok (.if_icmp .ne 7, 3) := by decide +kernel
theorem d2_119 : decode method_4_code 119 = .ok (.getstatic 76, 3) := by decide +kernel
theorem d2_122 : decode method_4_code 122 = .ok (.areturn, 1) := by decide +kernel
theorem d2_123 : decode method_4_code 123 = .ok (.getstatic 79, 3) := by decide +kernel
theorem d2_126 : decode method_4_code 126 = .ok (.areturn, 1) := by decide +kernel
theorem pn_2 : plainName "com/example/fir/fir/core/IndexHoldsPinLaw" = true := by first | (simp [plainName, overriddenIn]; done) | decide +kernel
theorem ef_rmT (m : MethodId) (x0 : Int32) : entryFrame m #[(.int x0)] 1 = mkF m 0 #[.val (.int x0)] [] := by first | (simp [entryFrame, mkF, argsToLocals, Value.category]; done) | rfl
def QT (Z : State) (k : Int32) (t0 : Addr) (t1 : Addr) (t2 : Addr) (t3 : Addr) (t4 : Addr) (t5 : Addr) (t6 : Addr) (t7 : Addr) (t8 : Addr) (t9 : Addr) (t10 : Addr) (t11 : Addr) (t12 : Addr) (t13 : Addr) (h0 : Heap) (n0 : Nat) (v : Option Value) (h : Heap) (L : List Loc) : Prop := v = some (.ref (own_ty k t0 t1 t2 t3 t4 t5 t6 t7 t8 t9 t10 t11 t12 t13)) ∧ Fr n0 L ∧ h = h0
set_option maxRecDepth 65536 in
set_option maxHeartbeats 40000000 in
theorem rmT (l : Launch) (Z : State) (a0 : Array Value) (hw : ∀ d ∈ tables_1, d.before a0 Z = true) (ws : List Jvm.Cond) (k : Int32) (t0 : Addr) (t1 : Addr) (t2 : Addr) (t3 : Addr) (t4 : Addr) (t5 : Addr) (t6 : Addr) (t7 : Addr) (t8 : Addr) (t9 : Addr) (t10 : Addr) (t11 : Addr) (t12 : Addr) (t13 : Addr) (h0 : Heap) (n0 : Nat) (Z0 : n0 ≤ h0.size) (S_KEYWORD : Sta Z h0 "com/example/fir/fir/core/ValueType" "KEYWORD" "Lcom/example/fir/fir/core/ValueType;" (.ref t0)) (S_LONG : Sta Z h0 "com/example/fir/fir/core/ValueType" "LONG" "Lcom/example/fir/fir/core/ValueType;" (.ref t1)) (S_STRING : Sta Z h0 "com/example/fir/fir/core/ValueType" "STRING" "Lcom/example/fir/fir/core/ValueType;" (.ref t2)) (S_INSTANT : Sta Z h0 "com/example/fir/fir/core/ValueType" "INSTANT" "Lcom/example/fir/fir/core/ValueType;" (.ref t3)) (S_REF : Sta Z h0 "com/example/fir/fir/core/ValueType" "REF" "Lcom/example/fir/fir/core/ValueType;" (.ref t4)) (S_BOOLEAN : Sta Z h0 "com/example/fir/fir/core/ValueType" "BOOLEAN" "Lcom/example/fir/fir/core/ValueType;" (.ref t5)) (S_BIGDEC : Sta Z h0 "com/example/fir/fir/core/ValueType" "BIGDEC" "Lcom/example/fir/fir/core/ValueType;" (.ref t6)) (S_BIGINT : Sta Z h0 "com/example/fir/fir/core/ValueType" "BIGINT" "Lcom/example/fir/fir/core/ValueType;" (.ref t7)) (S_DOUBLE : Sta Z h0 "com/example/fir/fir/core/ValueType" "DOUBLE" "Lcom/example/fir/fir/core/ValueType;" (.ref t8)) (S_FLOAT : Sta Z h0 "com/example/fir/fir/core/ValueType" "FLOAT" "Lcom/example/fir/fir/core/ValueType;" (.ref t9)) (S_SYMBOL : Sta Z h0 "com/example/fir/fir/core/ValueType" "SYMBOL" "Lcom/example/fir/fir/core/ValueType;" (.ref t10)) (S_UUID : Sta Z h0 "com/example/fir/fir/core/ValueType" "UUID" "Lcom/example/fir/fir/core/ValueType;" (.ref t11)) (S_URI : Sta Z h0 "com/example/fir/fir/core/ValueType" "URI" "Lcom/example/fir/fir/core/ValueType;" (.ref t12)) (S_TUPLE : Sta Z h0 "com/example/fir/fir/core/ValueType" "TUPLE" "Lcom/example/fir/fir/core/ValueType;" (.ref t13)) :
    MetFree l (⟨"com/example/fir/fir/core/IndexHoldsPinLaw", "type", "(I)Lcom/example/fir/fir/core/ValueType;"⟩ : MethodName) (head1 (Jvm.Cond.code (⟨"com/example/fir/fir/core/IndexHoldsPinLaw", "type", "(I)Lcom/example/fir/fir/core/ValueType;"⟩ : MethodName) method_4_code 1 (some (.object "com/example/fir/fir/core/ValueType")) :: ws) ({ frames := 0, cells := 0, slots := 0, locals := 0 } : Room)) (fun ar UU => ar = #[(.int k)] ∧ Z.Warmed39 UU.vm ∧ UU.heap = h0) (fun _ _ _ _ _ => True) (fun _ UU oo UU' => ∃ vv LL, oo = .returned vv ∧ QT Z k t0 t1 t2 t3 t4 t5 t6 t7 t8 t9 t10 t11 t12 t13 h0 n0 vv UU'.heap LL ∧ FrameEnd UU oo UU' LL ({ frames := 0, cells := 0, slots := 0, locals := 0 } : Room).cells ({ frames := 0, cells := 0, slots := 0, locals := 0 } : Room).slots) := by
  refine MetFree.of_bodySF (plainFor_of_name pn_2) hisR ?_
  intro p e s m args below meth c s₁ Bd hml0 hP hK
  obtain ⟨rfl, hZ, hh⟩ := hP
  have hx := Bd.exec
  have hby := Bd.bytes
  have hml : c.maxLocals = 1 := hml0
  have hown : s.vm.findClass "com/example/fir/fir/core/IndexHoldsPinLaw" = some m.cls := findClass_of_methodNamed Bd.named
  have hnm := (name_of_methodNamed Bd.named Bd.method).1
  have X0 : Stand p l e ({ frames := 0, cells := 0, slots := 0, locals := 0 } : Room) s m #[(.int k)] below meth c s₁ [] 0 0 := Stand.of_body Bd
  have e0 : s₁.heap = h0 := by rw [← hh, Bd.state]; rfl
  have N0 := Fr.nil n0
  have KC0 : Keep h0 h0 [] := Keep.refl h0 []
  have pre0 : ∀ tgt, Steps p.tables e below (s₁.setTop (mkF m 0 #[.val (.int k)] [])) tgt → Steps p.tables e below (s₁.setTop (entryFrame m #[(.int k)] 1)) tgt := fun tgt kk => castTop (ef_rmT m (k)) kk
  have pre1 : ∀ tgt, Steps p.tables e below (s₁.setTop (mkF m 1 #[.val (.int k)] [(.int k)])) tgt → Steps p.tables e below (s₁.setTop (entryFrame m #[(.int k)] 1)) tgt := by
    intro tgt kk
    refine pre0 tgt ?_
    refine XS.iloadN X0.here hx rfl (hb hby d2_0) rfl ?_
    show Steps p.tables e below (s₁.setTop (mkF m 1 #[.val (.int k)] [(.int k)])) _
    exact kk
  by_cases hc1_2 : k = (0 : Int32)
  · skip
    have pre3 : ∀ tgt, Steps p.tables e below (s₁.setTop (mkF m 4 #[.val (.int k)] [])) tgt → Steps p.tables e below (s₁.setTop (entryFrame m #[(.int k)] 1)) tgt := by
      intro tgt kk
      refine pre1 tgt ?_
      refine XS.ifNo X0.here hx rfl (hb hby d2_1) rfl (XT.i0_ne_f hc1_2) ?_
      show Steps p.tables e below (s₁.setTop (mkF m 4 #[.val (.int k)] [])) _
      exact kk
    obtain ⟨T4, X4, e4, st4⟩ := getS X0 hx hZ hown (host := "") (hw _ (List.mem_of_getElem? (i := 29) rfl)) Via.refl e0 S_KEYWORD (g := (mkF m 4 #[.val (.int k)] [])) rfl (hb hby d2_4)
    obtain ⟨fs, hr, hrun, hended, hW, hsame⟩ := X4.leave (v := some (.ref t0)) (fun h => by rw [Bd.returns] at h; cases h)
    refine ⟨_, _, pre3 _ ?_, hrun, hended, _, _, rfl, ?_, ⟨_, rfl⟩, hW, hsame.mono (by decide) (by decide)⟩
    · skip
      refine st4 _ ?_
      show Steps p.tables e below (T4.setTop (mkF m 7 #[.val (.int k)] [(.ref t0)])) _
      exact retOut X4 hx Bd.returns rfl (Or.inr (Or.inr (Or.inr (Or.inr ⟨rfl, rfl, rfl⟩)))) (hb hby d2_7) hr
    · show QT Z k t0 t1 t2 t3 t4 t5 t6 t7 t8 t9 t10 t11 t12 t13 h0 n0 _ T4.heap _
      rw [e4]
      exact ⟨by unfold own_ty; rw [if_pos hc1_2], N0, rfl⟩
  · skip
    have pre5 : ∀ tgt, Steps p.tables e below (s₁.setTop (mkF m 10 #[.val (.int k)] [(.int (1 : Int32)), (.int k)])) tgt → Steps p.tables e below (s₁.setTop (entryFrame m #[(.int k)] 1)) tgt := by
      intro tgt kk
      refine pre1 tgt ?_
      refine XS.ifYes X0.here hx rfl (pc0 := 1) (pc' := 8) rfl (hb hby d2_1) rfl (XT.i0_ne_t hc1_2) (by decide) (by decide) ?_
      show Steps p.tables e below (s₁.setTop (mkF m 8 #[.val (.int k)] [])) _
      refine XS.iloadN X0.here hx rfl (hb hby d2_8) rfl ?_
      show Steps p.tables e below (s₁.setTop (mkF m 9 #[.val (.int k)] [(.int k)])) _
      refine XS.iconst X0.here hx rfl (hb hby d2_9) ?_
      show Steps p.tables e below (s₁.setTop (mkF m 10 #[.val (.int k)] [(.int (1 : Int32)), (.int k)])) _
      exact kk
    by_cases hc10_6 : k = (1 : Int32)
    · skip
      have pre7 : ∀ tgt, Steps p.tables e below (s₁.setTop (mkF m 13 #[.val (.int k)] [])) tgt → Steps p.tables e below (s₁.setTop (entryFrame m #[(.int k)] 1)) tgt := by
        intro tgt kk
        refine pre5 tgt ?_
        refine XS.icmpNo X0.here hx rfl (hb hby d2_10) rfl (XT.ii_ne_f hc10_6) ?_
        show Steps p.tables e below (s₁.setTop (mkF m 13 #[.val (.int k)] [])) _
        exact kk
      obtain ⟨T8, X8, e8, st8⟩ := getS X0 hx hZ hown (host := "") (hw _ (List.mem_of_getElem? (i := 23) rfl)) Via.refl e0 S_LONG (g := (mkF m 13 #[.val (.int k)] [])) rfl (hb hby d2_13)
      obtain ⟨fs, hr, hrun, hended, hW, hsame⟩ := X8.leave (v := some (.ref t1)) (fun h => by rw [Bd.returns] at h; cases h)
      refine ⟨_, _, pre7 _ ?_, hrun, hended, _, _, rfl, ?_, ⟨_, rfl⟩, hW, hsame.mono (by decide) (by decide)⟩
      · skip
        refine st8 _ ?_
        show Steps p.tables e below (T8.setTop (mkF m 16 #[.val (.int k)] [(.ref t1)])) _
        exact retOut X8 hx Bd.returns rfl (Or.inr (Or.inr (Or.inr (Or.inr ⟨rfl, rfl, rfl⟩)))) (hb hby d2_16) hr
      · show QT Z k t0 t1 t2 t3 t4 t5 t6 t7 t8 t9 t10 t11 t12 t13 h0 n0 _ T8.heap _
        rw [e8]
        exact ⟨by unfold own_ty; rw [if_neg hc1_2, if_pos hc10_6], N0, rfl⟩
    · skip
      have pre9 : ∀ tgt, Steps p.tables e below (s₁.setTop (mkF m 19 #[.val (.int k)] [(.int (2 : Int32)), (.int k)])) tgt → Steps p.tables e below (s₁.setTop (entryFrame m #[(.int k)] 1)) tgt := by
        intro tgt kk
        refine pre5 tgt ?_
        refine XS.icmpYes X0.here hx rfl (pc0 := 10) (pc' := 17) rfl (hb hby d2_10) rfl (XT.ii_ne_t hc10_6) (by decide) (by decide) ?_
        show Steps p.tables e below (s₁.setTop (mkF m 17 #[.val (.int k)] [])) _
        refine XS.iloadN X0.here hx rfl (hb hby d2_17) rfl ?_
        show Steps p.tables e below (s₁.setTop (mkF m 18 #[.val (.int k)] [(.int k)])) _
        refine XS.iconst X0.here hx rfl (hb hby d2_18) ?_
        show Steps p.tables e below (s₁.setTop (mkF m 19 #[.val (.int k)] [(.int (2 : Int32)), (.int k)])) _
        exact kk
      by_cases hc19_10 : k = (2 : Int32)
      · skip
        have pre11 : ∀ tgt, Steps p.tables e below (s₁.setTop (mkF m 22 #[.val (.int k)] [])) tgt → Steps p.tables e below (s₁.setTop (entryFrame m #[(.int k)] 1)) tgt := by
          intro tgt kk
          refine pre9 tgt ?_
          refine XS.icmpNo X0.here hx rfl (hb hby d2_19) rfl (XT.ii_ne_f hc19_10) ?_
          show Steps p.tables e below (s₁.setTop (mkF m 22 #[.val (.int k)] [])) _
          exact kk
        obtain ⟨T12, X12, e12, st12⟩ := getS X0 hx hZ hown (host := "") (hw _ (List.mem_of_getElem? (i := 27) rfl)) Via.refl e0 S_STRING (g := (mkF m 22 #[.val (.int k)] [])) rfl (hb hby d2_22)
        obtain ⟨fs, hr, hrun, hended, hW, hsame⟩ := X12.leave (v := some (.ref t2)) (fun h => by rw [Bd.returns] at h; cases h)
        refine ⟨_, _, pre11 _ ?_, hrun, hended, _, _, rfl, ?_, ⟨_, rfl⟩, hW, hsame.mono (by decide) (by decide)⟩
        · skip
          refine st12 _ ?_
          show Steps p.tables e below (T12.setTop (mkF m 25 #[.val (.int k)] [(.ref t2)])) _
          exact retOut X12 hx Bd.returns rfl (Or.inr (Or.inr (Or.inr (Or.inr ⟨rfl, rfl, rfl⟩)))) (hb hby d2_25) hr
        · show QT Z k t0 t1 t2 t3 t4 t5 t6 t7 t8 t9 t10 t11 t12 t13 h0 n0 _ T12.heap _
          rw [e12]
          exact ⟨by unfold own_ty; rw [if_neg hc1_2, if_neg hc10_6, if_pos hc19_10], N0, rfl⟩
      · skip
        have pre13 : ∀ tgt, Steps p.tables e below (s₁.setTop (mkF m 28 #[.val (.int k)] [(.int (3 : Int32)), (.int k)])) tgt → Steps p.tables e below (s₁.setTop (entryFrame m #[(.int k)] 1)) tgt := by
          intro tgt kk
          refine pre9 tgt ?_
          refine XS.icmpYes X0.here hx rfl (pc0 := 19) (pc' := 26) rfl (hb hby d2_19) rfl (XT.ii_ne_t hc19_10) (by decide) (by decide) ?_
          show Steps p.tables e below (s₁.setTop (mkF m 26 #[.val (.int k)] [])) _
          refine XS.iloadN X0.here hx rfl (hb hby d2_26) rfl ?_
          show Steps p.tables e below (s₁.setTop (mkF m 27 #[.val (.int k)] [(.int k)])) _
          refine XS.iconst X0.here hx rfl (hb hby d2_27) ?_
          show Steps p.tables e below (s₁.setTop (mkF m 28 #[.val (.int k)] [(.int (3 : Int32)), (.int k)])) _
          exact kk
        by_cases hc28_14 : k = (3 : Int32)
        · skip
          have pre15 : ∀ tgt, Steps p.tables e below (s₁.setTop (mkF m 31 #[.val (.int k)] [])) tgt → Steps p.tables e below (s₁.setTop (entryFrame m #[(.int k)] 1)) tgt := by
            intro tgt kk
            refine pre13 tgt ?_
            refine XS.icmpNo X0.here hx rfl (hb hby d2_28) rfl (XT.ii_ne_f hc28_14) ?_
            show Steps p.tables e below (s₁.setTop (mkF m 31 #[.val (.int k)] [])) _
            exact kk
          obtain ⟨T16, X16, e16, st16⟩ := getS X0 hx hZ hown (host := "") (hw _ (List.mem_of_getElem? (i := 11) rfl)) Via.refl e0 S_INSTANT (g := (mkF m 31 #[.val (.int k)] [])) rfl (hb hby d2_31)
          obtain ⟨fs, hr, hrun, hended, hW, hsame⟩ := X16.leave (v := some (.ref t3)) (fun h => by rw [Bd.returns] at h; cases h)
          refine ⟨_, _, pre15 _ ?_, hrun, hended, _, _, rfl, ?_, ⟨_, rfl⟩, hW, hsame.mono (by decide) (by decide)⟩
          · skip
            refine st16 _ ?_
            show Steps p.tables e below (T16.setTop (mkF m 34 #[.val (.int k)] [(.ref t3)])) _
            exact retOut X16 hx Bd.returns rfl (Or.inr (Or.inr (Or.inr (Or.inr ⟨rfl, rfl, rfl⟩)))) (hb hby d2_34) hr
          · show QT Z k t0 t1 t2 t3 t4 t5 t6 t7 t8 t9 t10 t11 t12 t13 h0 n0 _ T16.heap _
            rw [e16]
            exact ⟨by unfold own_ty; rw [if_neg hc1_2, if_neg hc10_6, if_neg hc19_10, if_pos hc28_14], N0, rfl⟩
        · skip
          have pre17 : ∀ tgt, Steps p.tables e below (s₁.setTop (mkF m 37 #[.val (.int k)] [(.int (4 : Int32)), (.int k)])) tgt → Steps p.tables e below (s₁.setTop (entryFrame m #[(.int k)] 1)) tgt := by
            intro tgt kk
            refine pre13 tgt ?_
            refine XS.icmpYes X0.here hx rfl (pc0 := 28) (pc' := 35) rfl (hb hby d2_28) rfl (XT.ii_ne_t hc28_14) (by decide) (by decide) ?_
            show Steps p.tables e below (s₁.setTop (mkF m 35 #[.val (.int k)] [])) _
            refine XS.iloadN X0.here hx rfl (hb hby d2_35) rfl ?_
            show Steps p.tables e below (s₁.setTop (mkF m 36 #[.val (.int k)] [(.int k)])) _
            refine XS.iconst X0.here hx rfl (hb hby d2_36) ?_
            show Steps p.tables e below (s₁.setTop (mkF m 37 #[.val (.int k)] [(.int (4 : Int32)), (.int k)])) _
            exact kk
          by_cases hc37_18 : k = (4 : Int32)
          · skip
            have pre19 : ∀ tgt, Steps p.tables e below (s₁.setTop (mkF m 40 #[.val (.int k)] [])) tgt → Steps p.tables e below (s₁.setTop (entryFrame m #[(.int k)] 1)) tgt := by
              intro tgt kk
              refine pre17 tgt ?_
              refine XS.icmpNo X0.here hx rfl (hb hby d2_37) rfl (XT.ii_ne_f hc37_18) ?_
              show Steps p.tables e below (s₁.setTop (mkF m 40 #[.val (.int k)] [])) _
              exact kk
            obtain ⟨T20, X20, e20, st20⟩ := getS X0 hx hZ hown (host := "") (hw _ (List.mem_of_getElem? (i := 41) rfl)) Via.refl e0 S_REF (g := (mkF m 40 #[.val (.int k)] [])) rfl (hb hby d2_40)
            obtain ⟨fs, hr, hrun, hended, hW, hsame⟩ := X20.leave (v := some (.ref t4)) (fun h => by rw [Bd.returns] at h; cases h)
            refine ⟨_, _, pre19 _ ?_, hrun, hended, _, _, rfl, ?_, ⟨_, rfl⟩, hW, hsame.mono (by decide) (by decide)⟩
            · skip
              refine st20 _ ?_
              show Steps p.tables e below (T20.setTop (mkF m 43 #[.val (.int k)] [(.ref t4)])) _
              exact retOut X20 hx Bd.returns rfl (Or.inr (Or.inr (Or.inr (Or.inr ⟨rfl, rfl, rfl⟩)))) (hb hby d2_43) hr
            · show QT Z k t0 t1 t2 t3 t4 t5 t6 t7 t8 t9 t10 t11 t12 t13 h0 n0 _ T20.heap _
              rw [e20]
              exact ⟨by unfold own_ty; rw [if_neg hc1_2, if_neg hc10_6, if_neg hc19_10, if_neg hc28_14, if_pos hc37_18], N0, rfl⟩
          · skip
            have pre21 : ∀ tgt, Steps p.tables e below (s₁.setTop (mkF m 46 #[.val (.int k)] [(.int (5 : Int32)), (.int k)])) tgt → Steps p.tables e below (s₁.setTop (entryFrame m #[(.int k)] 1)) tgt := by
              intro tgt kk
              refine pre17 tgt ?_
              refine XS.icmpYes X0.here hx rfl (pc0 := 37) (pc' := 44) rfl (hb hby d2_37) rfl (XT.ii_ne_t hc37_18) (by decide) (by decide) ?_
              show Steps p.tables e below (s₁.setTop (mkF m 44 #[.val (.int k)] [])) _
              refine XS.iloadN X0.here hx rfl (hb hby d2_44) rfl ?_
              show Steps p.tables e below (s₁.setTop (mkF m 45 #[.val (.int k)] [(.int k)])) _
              refine XS.iconst X0.here hx rfl (hb hby d2_45) ?_
              show Steps p.tables e below (s₁.setTop (mkF m 46 #[.val (.int k)] [(.int (5 : Int32)), (.int k)])) _
              exact kk
            by_cases hc46_22 : k = (5 : Int32)
            · skip
              have pre23 : ∀ tgt, Steps p.tables e below (s₁.setTop (mkF m 49 #[.val (.int k)] [])) tgt → Steps p.tables e below (s₁.setTop (entryFrame m #[(.int k)] 1)) tgt := by
                intro tgt kk
                refine pre21 tgt ?_
                refine XS.icmpNo X0.here hx rfl (hb hby d2_46) rfl (XT.ii_ne_f hc46_22) ?_
                show Steps p.tables e below (s₁.setTop (mkF m 49 #[.val (.int k)] [])) _
                exact kk
              obtain ⟨T24, X24, e24, st24⟩ := getS X0 hx hZ hown (host := "") (hw _ (List.mem_of_getElem? (i := 25) rfl)) Via.refl e0 S_BOOLEAN (g := (mkF m 49 #[.val (.int k)] [])) rfl (hb hby d2_49)
              obtain ⟨fs, hr, hrun, hended, hW, hsame⟩ := X24.leave (v := some (.ref t5)) (fun h => by rw [Bd.returns] at h; cases h)
              refine ⟨_, _, pre23 _ ?_, hrun, hended, _, _, rfl, ?_, ⟨_, rfl⟩, hW, hsame.mono (by decide) (by decide)⟩
              · skip
                refine st24 _ ?_
                show Steps p.tables e below (T24.setTop (mkF m 52 #[.val (.int k)] [(.ref t5)])) _
                exact retOut X24 hx Bd.returns rfl (Or.inr (Or.inr (Or.inr (Or.inr ⟨rfl, rfl, rfl⟩)))) (hb hby d2_52) hr
              · show QT Z k t0 t1 t2 t3 t4 t5 t6 t7 t8 t9 t10 t11 t12 t13 h0 n0 _ T24.heap _
                rw [e24]
                exact ⟨by unfold own_ty; rw [if_neg hc1_2, if_neg hc10_6, if_neg hc19_10, if_neg hc28_14, if_neg hc37_18, if_pos hc46_22], N0, rfl⟩
            · skip
              have pre25 : ∀ tgt, Steps p.tables e below (s₁.setTop (mkF m 56 #[.val (.int k)] [(.int (6 : Int32)), (.int k)])) tgt → Steps p.tables e below (s₁.setTop (entryFrame m #[(.int k)] 1)) tgt := by
                intro tgt kk
                refine pre21 tgt ?_
                refine XS.icmpYes X0.here hx rfl (pc0 := 46) (pc' := 53) rfl (hb hby d2_46) rfl (XT.ii_ne_t hc46_22) (by decide) (by decide) ?_
                show Steps p.tables e below (s₁.setTop (mkF m 53 #[.val (.int k)] [])) _
                refine XS.iloadN X0.here hx rfl (hb hby d2_53) rfl ?_
                show Steps p.tables e below (s₁.setTop (mkF m 54 #[.val (.int k)] [(.int k)])) _
                refine XS.bipush X0.here hx rfl (hb hby d2_54) ?_
                show Steps p.tables e below (s₁.setTop (mkF m 56 #[.val (.int k)] [(.int (6 : Int32)), (.int k)])) _
                exact kk
              by_cases hc56_26 : k = (6 : Int32)
              · skip
                have pre27 : ∀ tgt, Steps p.tables e below (s₁.setTop (mkF m 59 #[.val (.int k)] [])) tgt → Steps p.tables e below (s₁.setTop (entryFrame m #[(.int k)] 1)) tgt := by
                  intro tgt kk
                  refine pre25 tgt ?_
                  refine XS.icmpNo X0.here hx rfl (hb hby d2_56) rfl (XT.ii_ne_f hc56_26) ?_
                  show Steps p.tables e below (s₁.setTop (mkF m 59 #[.val (.int k)] [])) _
                  exact kk
                obtain ⟨T28, X28, e28, st28⟩ := getS X0 hx hZ hown (host := "") (hw _ (List.mem_of_getElem? (i := 45) rfl)) Via.refl e0 S_BIGDEC (g := (mkF m 59 #[.val (.int k)] [])) rfl (hb hby d2_59)
                obtain ⟨fs, hr, hrun, hended, hW, hsame⟩ := X28.leave (v := some (.ref t6)) (fun h => by rw [Bd.returns] at h; cases h)
                refine ⟨_, _, pre27 _ ?_, hrun, hended, _, _, rfl, ?_, ⟨_, rfl⟩, hW, hsame.mono (by decide) (by decide)⟩
                · skip
                  refine st28 _ ?_
                  show Steps p.tables e below (T28.setTop (mkF m 62 #[.val (.int k)] [(.ref t6)])) _
                  exact retOut X28 hx Bd.returns rfl (Or.inr (Or.inr (Or.inr (Or.inr ⟨rfl, rfl, rfl⟩)))) (hb hby d2_62) hr
                · show QT Z k t0 t1 t2 t3 t4 t5 t6 t7 t8 t9 t10 t11 t12 t13 h0 n0 _ T28.heap _
                  rw [e28]
                  exact ⟨by unfold own_ty; rw [if_neg hc1_2, if_neg hc10_6, if_neg hc19_10, if_neg hc28_14, if_neg hc37_18, if_neg hc46_22, if_pos hc56_26], N0, rfl⟩
              · skip
                have pre29 : ∀ tgt, Steps p.tables e below (s₁.setTop (mkF m 66 #[.val (.int k)] [(.int (7 : Int32)), (.int k)])) tgt → Steps p.tables e below (s₁.setTop (entryFrame m #[(.int k)] 1)) tgt := by
                  intro tgt kk
                  refine pre25 tgt ?_
                  refine XS.icmpYes X0.here hx rfl (pc0 := 56) (pc' := 63) rfl (hb hby d2_56) rfl (XT.ii_ne_t hc56_26) (by decide) (by decide) ?_
                  show Steps p.tables e below (s₁.setTop (mkF m 63 #[.val (.int k)] [])) _
                  refine XS.iloadN X0.here hx rfl (hb hby d2_63) rfl ?_
                  show Steps p.tables e below (s₁.setTop (mkF m 64 #[.val (.int k)] [(.int k)])) _
                  refine XS.bipush X0.here hx rfl (hb hby d2_64) ?_
                  show Steps p.tables e below (s₁.setTop (mkF m 66 #[.val (.int k)] [(.int (7 : Int32)), (.int k)])) _
                  exact kk
                by_cases hc66_30 : k = (7 : Int32)
                · skip
                  have pre31 : ∀ tgt, Steps p.tables e below (s₁.setTop (mkF m 69 #[.val (.int k)] [])) tgt → Steps p.tables e below (s₁.setTop (entryFrame m #[(.int k)] 1)) tgt := by
                    intro tgt kk
                    refine pre29 tgt ?_
                    refine XS.icmpNo X0.here hx rfl (hb hby d2_66) rfl (XT.ii_ne_f hc66_30) ?_
                    show Steps p.tables e below (s₁.setTop (mkF m 69 #[.val (.int k)] [])) _
                    exact kk
                  obtain ⟨T32, X32, e32, st32⟩ := getS X0 hx hZ hown (host := "") (hw _ (List.mem_of_getElem? (i := 43) rfl)) Via.refl e0 S_BIGINT (g := (mkF m 69 #[.val (.int k)] [])) rfl (hb hby d2_69)
                  obtain ⟨fs, hr, hrun, hended, hW, hsame⟩ := X32.leave (v := some (.ref t7)) (fun h => by rw [Bd.returns] at h; cases h)
                  refine ⟨_, _, pre31 _ ?_, hrun, hended, _, _, rfl, ?_, ⟨_, rfl⟩, hW, hsame.mono (by decide) (by decide)⟩
                  · skip
                    refine st32 _ ?_
                    show Steps p.tables e below (T32.setTop (mkF m 72 #[.val (.int k)] [(.ref t7)])) _
                    exact retOut X32 hx Bd.returns rfl (Or.inr (Or.inr (Or.inr (Or.inr ⟨rfl, rfl, rfl⟩)))) (hb hby d2_72) hr
                  · show QT Z k t0 t1 t2 t3 t4 t5 t6 t7 t8 t9 t10 t11 t12 t13 h0 n0 _ T32.heap _
                    rw [e32]
                    exact ⟨by unfold own_ty; rw [if_neg hc1_2, if_neg hc10_6, if_neg hc19_10, if_neg hc28_14, if_neg hc37_18, if_neg hc46_22, if_neg hc56_26, if_pos hc66_30], N0, rfl⟩
                · skip
                  have pre33 : ∀ tgt, Steps p.tables e below (s₁.setTop (mkF m 76 #[.val (.int k)] [(.int (8 : Int32)), (.int k)])) tgt → Steps p.tables e below (s₁.setTop (entryFrame m #[(.int k)] 1)) tgt := by
                    intro tgt kk
                    refine pre29 tgt ?_
                    refine XS.icmpYes X0.here hx rfl (pc0 := 66) (pc' := 73) rfl (hb hby d2_66) rfl (XT.ii_ne_t hc66_30) (by decide) (by decide) ?_
                    show Steps p.tables e below (s₁.setTop (mkF m 73 #[.val (.int k)] [])) _
                    refine XS.iloadN X0.here hx rfl (hb hby d2_73) rfl ?_
                    show Steps p.tables e below (s₁.setTop (mkF m 74 #[.val (.int k)] [(.int k)])) _
                    refine XS.bipush X0.here hx rfl (hb hby d2_74) ?_
                    show Steps p.tables e below (s₁.setTop (mkF m 76 #[.val (.int k)] [(.int (8 : Int32)), (.int k)])) _
                    exact kk
                  by_cases hc76_34 : k = (8 : Int32)
                  · skip
                    have pre35 : ∀ tgt, Steps p.tables e below (s₁.setTop (mkF m 79 #[.val (.int k)] [])) tgt → Steps p.tables e below (s₁.setTop (entryFrame m #[(.int k)] 1)) tgt := by
                      intro tgt kk
                      refine pre33 tgt ?_
                      refine XS.icmpNo X0.here hx rfl (hb hby d2_76) rfl (XT.ii_ne_f hc76_34) ?_
                      show Steps p.tables e below (s₁.setTop (mkF m 79 #[.val (.int k)] [])) _
                      exact kk
                    obtain ⟨T36, X36, e36, st36⟩ := getS X0 hx hZ hown (host := "") (hw _ (List.mem_of_getElem? (i := 39) rfl)) Via.refl e0 S_DOUBLE (g := (mkF m 79 #[.val (.int k)] [])) rfl (hb hby d2_79)
                    obtain ⟨fs, hr, hrun, hended, hW, hsame⟩ := X36.leave (v := some (.ref t8)) (fun h => by rw [Bd.returns] at h; cases h)
                    refine ⟨_, _, pre35 _ ?_, hrun, hended, _, _, rfl, ?_, ⟨_, rfl⟩, hW, hsame.mono (by decide) (by decide)⟩
                    · skip
                      refine st36 _ ?_
                      show Steps p.tables e below (T36.setTop (mkF m 82 #[.val (.int k)] [(.ref t8)])) _
                      exact retOut X36 hx Bd.returns rfl (Or.inr (Or.inr (Or.inr (Or.inr ⟨rfl, rfl, rfl⟩)))) (hb hby d2_82) hr
                    · show QT Z k t0 t1 t2 t3 t4 t5 t6 t7 t8 t9 t10 t11 t12 t13 h0 n0 _ T36.heap _
                      rw [e36]
                      exact ⟨by unfold own_ty; rw [if_neg hc1_2, if_neg hc10_6, if_neg hc19_10, if_neg hc28_14, if_neg hc37_18, if_neg hc46_22, if_neg hc56_26, if_neg hc66_30, if_pos hc76_34], N0, rfl⟩
                  · skip
                    have pre37 : ∀ tgt, Steps p.tables e below (s₁.setTop (mkF m 86 #[.val (.int k)] [(.int (9 : Int32)), (.int k)])) tgt → Steps p.tables e below (s₁.setTop (entryFrame m #[(.int k)] 1)) tgt := by
                      intro tgt kk
                      refine pre33 tgt ?_
                      refine XS.icmpYes X0.here hx rfl (pc0 := 76) (pc' := 83) rfl (hb hby d2_76) rfl (XT.ii_ne_t hc76_34) (by decide) (by decide) ?_
                      show Steps p.tables e below (s₁.setTop (mkF m 83 #[.val (.int k)] [])) _
                      refine XS.iloadN X0.here hx rfl (hb hby d2_83) rfl ?_
                      show Steps p.tables e below (s₁.setTop (mkF m 84 #[.val (.int k)] [(.int k)])) _
                      refine XS.bipush X0.here hx rfl (hb hby d2_84) ?_
                      show Steps p.tables e below (s₁.setTop (mkF m 86 #[.val (.int k)] [(.int (9 : Int32)), (.int k)])) _
                      exact kk
                    by_cases hc86_38 : k = (9 : Int32)
                    · skip
                      have pre39 : ∀ tgt, Steps p.tables e below (s₁.setTop (mkF m 89 #[.val (.int k)] [])) tgt → Steps p.tables e below (s₁.setTop (entryFrame m #[(.int k)] 1)) tgt := by
                        intro tgt kk
                        refine pre37 tgt ?_
                        refine XS.icmpNo X0.here hx rfl (hb hby d2_86) rfl (XT.ii_ne_f hc86_38) ?_
                        show Steps p.tables e below (s₁.setTop (mkF m 89 #[.val (.int k)] [])) _
                        exact kk
                      obtain ⟨T40, X40, e40, st40⟩ := getS X0 hx hZ hown (host := "") (hw _ (List.mem_of_getElem? (i := 49) rfl)) Via.refl e0 S_FLOAT (g := (mkF m 89 #[.val (.int k)] [])) rfl (hb hby d2_89)
                      obtain ⟨fs, hr, hrun, hended, hW, hsame⟩ := X40.leave (v := some (.ref t9)) (fun h => by rw [Bd.returns] at h; cases h)
                      refine ⟨_, _, pre39 _ ?_, hrun, hended, _, _, rfl, ?_, ⟨_, rfl⟩, hW, hsame.mono (by decide) (by decide)⟩
                      · skip
                        refine st40 _ ?_
                        show Steps p.tables e below (T40.setTop (mkF m 92 #[.val (.int k)] [(.ref t9)])) _
                        exact retOut X40 hx Bd.returns rfl (Or.inr (Or.inr (Or.inr (Or.inr ⟨rfl, rfl, rfl⟩)))) (hb hby d2_92) hr
                      · show QT Z k t0 t1 t2 t3 t4 t5 t6 t7 t8 t9 t10 t11 t12 t13 h0 n0 _ T40.heap _
                        rw [e40]
                        exact ⟨by unfold own_ty; rw [if_neg hc1_2, if_neg hc10_6, if_neg hc19_10, if_neg hc28_14, if_neg hc37_18, if_neg hc46_22, if_neg hc56_26, if_neg hc66_30, if_neg hc76_34, if_pos hc86_38], N0, rfl⟩
                    · skip
                      have pre41 : ∀ tgt, Steps p.tables e below (s₁.setTop (mkF m 96 #[.val (.int k)] [(.int (10 : Int32)), (.int k)])) tgt → Steps p.tables e below (s₁.setTop (entryFrame m #[(.int k)] 1)) tgt := by
                        intro tgt kk
                        refine pre37 tgt ?_
                        refine XS.icmpYes X0.here hx rfl (pc0 := 86) (pc' := 93) rfl (hb hby d2_86) rfl (XT.ii_ne_t hc86_38) (by decide) (by decide) ?_
                        show Steps p.tables e below (s₁.setTop (mkF m 93 #[.val (.int k)] [])) _
                        refine XS.iloadN X0.here hx rfl (hb hby d2_93) rfl ?_
                        show Steps p.tables e below (s₁.setTop (mkF m 94 #[.val (.int k)] [(.int k)])) _
                        refine XS.bipush X0.here hx rfl (hb hby d2_94) ?_
                        show Steps p.tables e below (s₁.setTop (mkF m 96 #[.val (.int k)] [(.int (10 : Int32)), (.int k)])) _
                        exact kk
                      by_cases hc96_42 : k = (10 : Int32)
                      · skip
                        have pre43 : ∀ tgt, Steps p.tables e below (s₁.setTop (mkF m 99 #[.val (.int k)] [])) tgt → Steps p.tables e below (s₁.setTop (entryFrame m #[(.int k)] 1)) tgt := by
                          intro tgt kk
                          refine pre41 tgt ?_
                          refine XS.icmpNo X0.here hx rfl (hb hby d2_96) rfl (XT.ii_ne_f hc96_42) ?_
                          show Steps p.tables e below (s₁.setTop (mkF m 99 #[.val (.int k)] [])) _
                          exact kk
                        obtain ⟨T44, X44, e44, st44⟩ := getS X0 hx hZ hown (host := "") (hw _ (List.mem_of_getElem? (i := 35) rfl)) Via.refl e0 S_SYMBOL (g := (mkF m 99 #[.val (.int k)] [])) rfl (hb hby d2_99)
                        obtain ⟨fs, hr, hrun, hended, hW, hsame⟩ := X44.leave (v := some (.ref t10)) (fun h => by rw [Bd.returns] at h; cases h)
                        refine ⟨_, _, pre43 _ ?_, hrun, hended, _, _, rfl, ?_, ⟨_, rfl⟩, hW, hsame.mono (by decide) (by decide)⟩
                        · skip
                          refine st44 _ ?_
                          show Steps p.tables e below (T44.setTop (mkF m 102 #[.val (.int k)] [(.ref t10)])) _
                          exact retOut X44 hx Bd.returns rfl (Or.inr (Or.inr (Or.inr (Or.inr ⟨rfl, rfl, rfl⟩)))) (hb hby d2_102) hr
                        · show QT Z k t0 t1 t2 t3 t4 t5 t6 t7 t8 t9 t10 t11 t12 t13 h0 n0 _ T44.heap _
                          rw [e44]
                          exact ⟨by unfold own_ty; rw [if_neg hc1_2, if_neg hc10_6, if_neg hc19_10, if_neg hc28_14, if_neg hc37_18, if_neg hc46_22, if_neg hc56_26, if_neg hc66_30, if_neg hc76_34, if_neg hc86_38, if_pos hc96_42], N0, rfl⟩
                      · skip
                        have pre45 : ∀ tgt, Steps p.tables e below (s₁.setTop (mkF m 106 #[.val (.int k)] [(.int (11 : Int32)), (.int k)])) tgt → Steps p.tables e below (s₁.setTop (entryFrame m #[(.int k)] 1)) tgt := by
                          intro tgt kk
                          refine pre41 tgt ?_
                          refine XS.icmpYes X0.here hx rfl (pc0 := 96) (pc' := 103) rfl (hb hby d2_96) rfl (XT.ii_ne_t hc96_42) (by decide) (by decide) ?_
                          show Steps p.tables e below (s₁.setTop (mkF m 103 #[.val (.int k)] [])) _
                          refine XS.iloadN X0.here hx rfl (hb hby d2_103) rfl ?_
                          show Steps p.tables e below (s₁.setTop (mkF m 104 #[.val (.int k)] [(.int k)])) _
                          refine XS.bipush X0.here hx rfl (hb hby d2_104) ?_
                          show Steps p.tables e below (s₁.setTop (mkF m 106 #[.val (.int k)] [(.int (11 : Int32)), (.int k)])) _
                          exact kk
                        by_cases hc106_46 : k = (11 : Int32)
                        · skip
                          have pre47 : ∀ tgt, Steps p.tables e below (s₁.setTop (mkF m 109 #[.val (.int k)] [])) tgt → Steps p.tables e below (s₁.setTop (entryFrame m #[(.int k)] 1)) tgt := by
                            intro tgt kk
                            refine pre45 tgt ?_
                            refine XS.icmpNo X0.here hx rfl (hb hby d2_106) rfl (XT.ii_ne_f hc106_46) ?_
                            show Steps p.tables e below (s₁.setTop (mkF m 109 #[.val (.int k)] [])) _
                            exact kk
                          obtain ⟨T48, X48, e48, st48⟩ := getS X0 hx hZ hown (host := "") (hw _ (List.mem_of_getElem? (i := 47) rfl)) Via.refl e0 S_UUID (g := (mkF m 109 #[.val (.int k)] [])) rfl (hb hby d2_109)
                          obtain ⟨fs, hr, hrun, hended, hW, hsame⟩ := X48.leave (v := some (.ref t11)) (fun h => by rw [Bd.returns] at h; cases h)
                          refine ⟨_, _, pre47 _ ?_, hrun, hended, _, _, rfl, ?_, ⟨_, rfl⟩, hW, hsame.mono (by decide) (by decide)⟩
                          · skip
                            refine st48 _ ?_
                            show Steps p.tables e below (T48.setTop (mkF m 112 #[.val (.int k)] [(.ref t11)])) _
                            exact retOut X48 hx Bd.returns rfl (Or.inr (Or.inr (Or.inr (Or.inr ⟨rfl, rfl, rfl⟩)))) (hb hby d2_112) hr
                          · show QT Z k t0 t1 t2 t3 t4 t5 t6 t7 t8 t9 t10 t11 t12 t13 h0 n0 _ T48.heap _
                            rw [e48]
                            exact ⟨by unfold own_ty; rw [if_neg hc1_2, if_neg hc10_6, if_neg hc19_10, if_neg hc28_14, if_neg hc37_18, if_neg hc46_22, if_neg hc56_26, if_neg hc66_30, if_neg hc76_34, if_neg hc86_38, if_neg hc96_42, if_pos hc106_46], N0, rfl⟩
                        · skip
                          have pre49 : ∀ tgt, Steps p.tables e below (s₁.setTop (mkF m 116 #[.val (.int k)] [(.int (12 : Int32)), (.int k)])) tgt → Steps p.tables e below (s₁.setTop (entryFrame m #[(.int k)] 1)) tgt := by
                            intro tgt kk
                            refine pre45 tgt ?_
                            refine XS.icmpYes X0.here hx rfl (pc0 := 106) (pc' := 113) rfl (hb hby d2_106) rfl (XT.ii_ne_t hc106_46) (by decide) (by decide) ?_
                            show Steps p.tables e below (s₁.setTop (mkF m 113 #[.val (.int k)] [])) _
                            refine XS.iloadN X0.here hx rfl (hb hby d2_113) rfl ?_
                            show Steps p.tables e below (s₁.setTop (mkF m 114 #[.val (.int k)] [(.int k)])) _
                            refine XS.bipush X0.here hx rfl (hb hby d2_114) ?_
                            show Steps p.tables e below (s₁.setTop (mkF m 116 #[.val (.int k)] [(.int (12 : Int32)), (.int k)])) _
                            exact kk
                          by_cases hc116_50 : k = (12 : Int32)
                          · skip
                            have pre51 : ∀ tgt, Steps p.tables e below (s₁.setTop (mkF m 119 #[.val (.int k)] [])) tgt → Steps p.tables e below (s₁.setTop (entryFrame m #[(.int k)] 1)) tgt := by
                              intro tgt kk
                              refine pre49 tgt ?_
                              refine XS.icmpNo X0.here hx rfl (hb hby d2_116) rfl (XT.ii_ne_f hc116_50) ?_
                              show Steps p.tables e below (s₁.setTop (mkF m 119 #[.val (.int k)] [])) _
                              exact kk
                            obtain ⟨T52, X52, e52, st52⟩ := getS X0 hx hZ hown (host := "") (hw _ (List.mem_of_getElem? (i := 51) rfl)) Via.refl e0 S_URI (g := (mkF m 119 #[.val (.int k)] [])) rfl (hb hby d2_119)
                            obtain ⟨fs, hr, hrun, hended, hW, hsame⟩ := X52.leave (v := some (.ref t12)) (fun h => by rw [Bd.returns] at h; cases h)
                            refine ⟨_, _, pre51 _ ?_, hrun, hended, _, _, rfl, ?_, ⟨_, rfl⟩, hW, hsame.mono (by decide) (by decide)⟩
                            · skip
                              refine st52 _ ?_
                              show Steps p.tables e below (T52.setTop (mkF m 122 #[.val (.int k)] [(.ref t12)])) _
                              exact retOut X52 hx Bd.returns rfl (Or.inr (Or.inr (Or.inr (Or.inr ⟨rfl, rfl, rfl⟩)))) (hb hby d2_122) hr
                            · show QT Z k t0 t1 t2 t3 t4 t5 t6 t7 t8 t9 t10 t11 t12 t13 h0 n0 _ T52.heap _
                              rw [e52]
                              exact ⟨by unfold own_ty; rw [if_neg hc1_2, if_neg hc10_6, if_neg hc19_10, if_neg hc28_14, if_neg hc37_18, if_neg hc46_22, if_neg hc56_26, if_neg hc66_30, if_neg hc76_34, if_neg hc86_38, if_neg hc96_42, if_neg hc106_46, if_pos hc116_50], N0, rfl⟩
                          · skip
                            have pre53 : ∀ tgt, Steps p.tables e below (s₁.setTop (mkF m 123 #[.val (.int k)] [])) tgt → Steps p.tables e below (s₁.setTop (entryFrame m #[(.int k)] 1)) tgt := by
                              intro tgt kk
                              refine pre49 tgt ?_
                              refine XS.icmpYes X0.here hx rfl (pc0 := 116) (pc' := 123) rfl (hb hby d2_116) rfl (XT.ii_ne_t hc116_50) (by decide) (by decide) ?_
                              show Steps p.tables e below (s₁.setTop (mkF m 123 #[.val (.int k)] [])) _
                              exact kk
                            obtain ⟨T54, X54, e54, st54⟩ := getS X0 hx hZ hown (host := "") (hw _ (List.mem_of_getElem? (i := 33) rfl)) Via.refl e0 S_TUPLE (g := (mkF m 123 #[.val (.int k)] [])) rfl (hb hby d2_123)
                            obtain ⟨fs, hr, hrun, hended, hW, hsame⟩ := X54.leave (v := some (.ref t13)) (fun h => by rw [Bd.returns] at h; cases h)
                            refine ⟨_, _, pre53 _ ?_, hrun, hended, _, _, rfl, ?_, ⟨_, rfl⟩, hW, hsame.mono (by decide) (by decide)⟩
                            · skip
                              refine st54 _ ?_
                              show Steps p.tables e below (T54.setTop (mkF m 126 #[.val (.int k)] [(.ref t13)])) _
                              exact retOut X54 hx Bd.returns rfl (Or.inr (Or.inr (Or.inr (Or.inr ⟨rfl, rfl, rfl⟩)))) (hb hby d2_126) hr
                            · show QT Z k t0 t1 t2 t3 t4 t5 t6 t7 t8 t9 t10 t11 t12 t13 h0 n0 _ T54.heap _
                              rw [e54]
                              exact ⟨by unfold own_ty; rw [if_neg hc1_2, if_neg hc10_6, if_neg hc19_10, if_neg hc28_14, if_neg hc37_18, if_neg hc46_22, if_neg hc56_26, if_neg hc66_30, if_neg hc76_34, if_neg hc86_38, if_neg hc96_42, if_neg hc106_46, if_neg hc116_50], N0, rfl⟩
theorem d3_0 : decode prog_25_method_5_code 0 = .ok (.aload_n 0, 1) := by decide +kernel
theorem d3_1 : decode prog_25_method_5_code 1 = .ok (.getfield 42, 3) := by decide +kernel
theorem d3_4 : decode prog_25_method_5_code 4 = .ok (.ifnull 11, 3) := by decide +kernel
theorem d3_7 : decode prog_25_method_5_code 7 = .ok (.aload_n 0, 1) := by decide +kernel
theorem d3_8 : decode prog_25_method_5_code 8 = .ok (.getfield 42, 3) := by decide +kernel
theorem d3_11 : decode prog_25_method_5_code 11 = .ok (.aload_n 1, 1) := by decide +kernel
theorem d3_12 : decode prog_25_method_5_code 12 = .ok (.if_acmp .ne 7, 3) := by decide +kernel
theorem d3_15 : decode prog_25_method_5_code 15 = .ok (.iconst 1, 1) := by decide +kernel
theorem d3_16 : decode prog_25_method_5_code 16 = .ok (.goto 4, 3) := by decide +kernel
theorem d3_19 : decode prog_25_method_5_code 19 = .ok (.iconst 0, 1) := by decide +kernel
theorem d3_20 : decode prog_25_method_5_code 20 = .ok (.ireturn, 1) := by decide +kernel
theorem pn_3 : plainName "com/example/fir/fir/core/Index" = true := by first | (simp [plainName, overriddenIn]; done) | decide +kernel
theorem ef_rmH (m : MethodId) (x0 : Addr) (x1 : Addr) : entryFrame m #[(.ref x0), (.ref x1)] 2 = mkF m 0 #[.val (.ref x0), .val (.ref x1)] [] := by first | (simp [entryFrame, mkF, argsToLocals, Value.category]; done) | rfl
def QH (Z : State) (a : Addr) (t : Addr) (o : Value) (h0 : Heap) (n0 : Nat) (v : Option Value) (h : Heap) (L : List Loc) : Prop := v = some (.int (bI ((o = .null) ∨ ((o : Value) = (.ref t))))) ∧ Fr n0 L ∧ h = h0
set_option maxRecDepth 65536 in
set_option maxHeartbeats 40000000 in
theorem rmH (l : Launch) (Z : State) (a0 : Array Value) (hw : ∀ d ∈ tables_1, d.before a0 Z = true) (ws : List Jvm.Cond) (a : Addr) (t : Addr) (o : Value) (h0 : Heap) (n0 : Nat) (Z0 : n0 ≤ h0.size) (F_only : Fld Z h0 a "com/example/fir/fir/core/Index" "only" "Lcom/example/fir/fir/core/ValueType;" o) (ho : o.isRef = true) :
    MetFree l (⟨"com/example/fir/fir/core/Index", "holds", "(Lcom/example/fir/fir/core/ValueType;)Z"⟩ : MethodName) (head1 (Jvm.Cond.code (⟨"com/example/fir/fir/core/Index", "holds", "(Lcom/example/fir/fir/core/ValueType;)Z"⟩ : MethodName) prog_25_method_5_code 2 (some .boolean) :: ws) ({ frames := 0, cells := 0, slots := 0, locals := 0 } : Room)) (fun ar UU => ar = #[(.ref a), (.ref t)] ∧ Z.Warmed39 UU.vm ∧ UU.heap = h0) (fun _ _ _ _ _ => True) (fun _ UU oo UU' => ∃ vv LL, oo = .returned vv ∧ QH Z a t o h0 n0 vv UU'.heap LL ∧ FrameEnd UU oo UU' LL ({ frames := 0, cells := 0, slots := 0, locals := 0 } : Room).cells ({ frames := 0, cells := 0, slots := 0, locals := 0 } : Room).slots) := by
  refine MetFree.of_bodySF (plainFor_of_name pn_3) hisR ?_
  intro p e s m args below meth c s₁ Bd hml0 hP hK
  obtain ⟨rfl, hZ, hh⟩ := hP
  have hx := Bd.exec
  have hby := Bd.bytes
  have hml : c.maxLocals = 2 := hml0
  have hown : s.vm.findClass "com/example/fir/fir/core/Index" = some m.cls := findClass_of_methodNamed Bd.named
  have hnm := (name_of_methodNamed Bd.named Bd.method).1
  have X0 : Stand p l e ({ frames := 0, cells := 0, slots := 0, locals := 0 } : Room) s m #[(.ref a), (.ref t)] below meth c s₁ [] 0 0 := Stand.of_body Bd
  have e0 : s₁.heap = h0 := by rw [← hh, Bd.state]; rfl
  have N0 := Fr.nil n0
  have KC0 : Keep h0 h0 [] := Keep.refl h0 []
  have pre0 : ∀ tgt, Steps p.tables e below (s₁.setTop (mkF m 0 #[.val (.ref a), .val (.ref t)] [])) tgt → Steps p.tables e below (s₁.setTop (entryFrame m #[(.ref a), (.ref t)] 2)) tgt := fun tgt kk => castTop (ef_rmH m (a) (t)) kk
  have pre1 : ∀ tgt, Steps p.tables e below (s₁.setTop (mkF m 1 #[.val (.ref a), .val (.ref t)] [(.ref a)])) tgt → Steps p.tables e below (s₁.setTop (entryFrame m #[(.ref a), (.ref t)] 2)) tgt := by
    intro tgt kk
    refine pre0 tgt ?_
    refine XS.aloadN X0.here hx rfl (hb hby d3_0) rfl rfl ?_
    show Steps p.tables e below (s₁.setTop (mkF m 1 #[.val (.ref a), .val (.ref t)] [(.ref a)])) _
    exact kk
  obtain ⟨T2, X2, e2, st2⟩ := getF X0 hx hZ hown (host := "") (Or.inl (hw _ (List.mem_of_getElem? (i := 19) rfl))) Via.refl e0 F_only (g := (mkF m 1 #[.val (.ref a), .val (.ref t)] [(.ref a)])) rfl rfl (hb hby d3_1)
  have pre3 : ∀ tgt, Steps p.tables e below (T2.setTop (mkF m 4 #[.val (.ref a), .val (.ref t)] [o])) tgt → Steps p.tables e below (s₁.setTop (entryFrame m #[(.ref a), (.ref t)] 2)) tgt := by
    intro tgt kk
    refine pre1 tgt ?_
    refine st2 _ ?_
    show Steps p.tables e below (T2.setTop (mkF m 4 #[.val (.ref a), .val (.ref t)] [o])) _
    exact kk
  obtain ⟨T9, lo9, X9, N9, e9, pre9⟩ : ∃ (T' : State) (lo : List Loc), Stand p l e ({ frames := 0, cells := 0, slots := 0, locals := 0 } : Room) s m #[(.ref a), (.ref t)] below meth c T' lo 0 0 ∧ Fr n0 lo ∧ T'.heap = h0 ∧ ∀ tgt, Steps p.tables e below (T'.setTop (mkF m 20 #[.val (.ref a), .val (.ref t)] [(.int (bI ((o = .null) ∨ ((o : Value) = (.ref t)))))])) tgt → Steps p.tables e below (s₁.setTop (entryFrame m #[(.ref a), (.ref t)] 2)) tgt := by
    by_cases hc4_4 : o = .null
    · skip
      refine ⟨T2, _, X2, N0, e2, fun tgt kk => ?_⟩
      have kq10 : ((.int (bI ((o = .null) ∨ ((o : Value) = (.ref t))))) : Value) = (.int (1 : Int32)) := (congrArg Value.int (bI_t (Or.inl hc4_4)))
      rw [kq10] at kk
      refine pre3 tgt ?_
      refine XT.nullYes X2.here hx rfl (pc0 := 4) (pc' := 15) rfl (hb hby d3_4) rfl hc4_4 (by decide) (by decide) ?_
      show Steps p.tables e below (T2.setTop (mkF m 15 #[.val (.ref a), .val (.ref t)] [])) _
      refine XS.iconst X2.here hx rfl (hb hby d3_15) ?_
      show Steps p.tables e below (T2.setTop (mkF m 16 #[.val (.ref a), .val (.ref t)] [(.int (1 : Int32))])) _
      refine XS.goto X2.here hx rfl (pc0 := 16) (pc' := 20) rfl (hb hby d3_16) (by decide) (by decide) ?_
      show Steps p.tables e below (T2.setTop (mkF m 20 #[.val (.ref a), .val (.ref t)] [(.int (1 : Int32))])) _
      exact kk
    · skip
      have pre5 : ∀ tgt, Steps p.tables e below (T2.setTop (mkF m 8 #[.val (.ref a), .val (.ref t)] [(.ref a)])) tgt → Steps p.tables e below (s₁.setTop (entryFrame m #[(.ref a), (.ref t)] 2)) tgt := by
        intro tgt kk
        refine pre3 tgt ?_
        refine XT.nullNo X2.here hx rfl (hb hby d3_4) rfl ho hc4_4 ?_
        show Steps p.tables e below (T2.setTop (mkF m 7 #[.val (.ref a), .val (.ref t)] [])) _
        refine XS.aloadN X2.here hx rfl (hb hby d3_7) rfl rfl ?_
        show Steps p.tables e below (T2.setTop (mkF m 8 #[.val (.ref a), .val (.ref t)] [(.ref a)])) _
        exact kk
      obtain ⟨T6, X6, e6, st6⟩ := getF X2 hx hZ hown (host := "") (Or.inl (hw _ (List.mem_of_getElem? (i := 19) rfl))) Via.refl e2 F_only (g := (mkF m 8 #[.val (.ref a), .val (.ref t)] [(.ref a)])) rfl rfl (hb hby d3_8)
      have pre7 : ∀ tgt, Steps p.tables e below (T6.setTop (mkF m 12 #[.val (.ref a), .val (.ref t)] [(.ref t), o])) tgt → Steps p.tables e below (s₁.setTop (entryFrame m #[(.ref a), (.ref t)] 2)) tgt := by
        intro tgt kk
        refine pre5 tgt ?_
        refine st6 _ ?_
        show Steps p.tables e below (T6.setTop (mkF m 11 #[.val (.ref a), .val (.ref t)] [o])) _
        refine XS.aloadN X6.here hx rfl (hb hby d3_11) rfl rfl ?_
        show Steps p.tables e below (T6.setTop (mkF m 12 #[.val (.ref a), .val (.ref t)] [(.ref t), o])) _
        exact kk
      by_cases hc12_8 : (o : Value) = (.ref t)
      · skip
        refine ⟨T6, _, X6, N0, e6, fun tgt kk => ?_⟩
        have kq11 : ((.int (bI ((o = .null) ∨ ((o : Value) = (.ref t))))) : Value) = (.int (1 : Int32)) := ((congrArg Value.int (bI_iff (or_iff_right hc4_4))).trans (congrArg Value.int (bI_t hc12_8)))
        rw [kq11] at kk
        refine pre7 tgt ?_
        refine XT.acmpNo X6.here hx rfl (hb hby d3_12) rfl ho rfl (XT.aa_ne_f hc12_8) ?_
        show Steps p.tables e below (T6.setTop (mkF m 15 #[.val (.ref a), .val (.ref t)] [])) _
        refine XS.iconst X6.here hx rfl (hb hby d3_15) ?_
        show Steps p.tables e below (T6.setTop (mkF m 16 #[.val (.ref a), .val (.ref t)] [(.int (1 : Int32))])) _
        refine XS.goto X6.here hx rfl (pc0 := 16) (pc' := 20) rfl (hb hby d3_16) (by decide) (by decide) ?_
        show Steps p.tables e below (T6.setTop (mkF m 20 #[.val (.ref a), .val (.ref t)] [(.int (1 : Int32))])) _
        exact kk
      · skip
        refine ⟨T6, _, X6, N0, e6, fun tgt kk => ?_⟩
        have kq12 : ((.int (bI ((o = .null) ∨ ((o : Value) = (.ref t))))) : Value) = (.int (0 : Int32)) := ((congrArg Value.int (bI_iff (or_iff_right hc4_4))).trans (congrArg Value.int (bI_f hc12_8)))
        rw [kq12] at kk
        refine pre7 tgt ?_
        refine XT.acmpYes X6.here hx rfl (pc0 := 12) (pc' := 19) rfl (hb hby d3_12) rfl ho rfl (XT.aa_ne_t hc12_8) (by decide) (by decide) ?_
        show Steps p.tables e below (T6.setTop (mkF m 19 #[.val (.ref a), .val (.ref t)] [])) _
        refine XS.iconst X6.here hx rfl (hb hby d3_19) ?_
        show Steps p.tables e below (T6.setTop (mkF m 20 #[.val (.ref a), .val (.ref t)] [(.int (0 : Int32))])) _
        exact kk
  obtain ⟨fs, hr, hrun, hended, hW, hsame⟩ := X9.leave (v := some (.int (nar .boolean (bI ((o = .null) ∨ ((o : Value) = (.ref t))))))) (fun h => by rw [Bd.returns] at h; cases h)
  refine ⟨_, _, pre9 _ ?_, hrun, hended, _, _, rfl, ?_, ⟨_, rfl⟩, hW, hsame.mono (by decide) (by decide)⟩
  · skip
    exact retN X9 hx (t := .boolean) Bd.returns (by simp) (hb hby d3_20) hr
  · show QH Z a t o h0 n0 _ T9.heap _
    rw [e9]
    exact ⟨bI_ret, N9, rfl⟩
theorem pn_0 : plainName "com/example/fir/fir/core/IndexHoldsPinLaw" = true := by first | (simp [plainName, overriddenIn]; done) | decide +kernel
theorem pd__I_Lcom_example_fir_fir_core_Index_ : parseMethodDescriptor "(I)Lcom/example/fir/fir/core/Index;" = some ⟨[.int], some (.object "com/example/fir/fir/core/Index")⟩ := by decide +kernel
theorem pd__I_Lcom_example_fir_fir_core_ValueType_ : parseMethodDescriptor "(I)Lcom/example/fir/fir/core/ValueType;" = some ⟨[.int], some (.object "com/example/fir/fir/core/ValueType")⟩ := by decide +kernel
theorem pd__Lcom_example_fir_fir_core_ValueType__Z : parseMethodDescriptor "(Lcom/example/fir/fir/core/ValueType;)Z" = some ⟨[(.object "com/example/fir/fir/core/ValueType")], some .boolean⟩ := by decide +kernel
theorem ef_rm0 (m : MethodId) (x0 : Int32) (x1 : Int32) : entryFrame m #[(.int x0), (.int x1)] maxLocals = mkF m 0 #[.val (.int x0), .val (.int x1), .unset, .unset, .unset, .unset, .unset] [] := by first | (simp [entryFrame, mkF, argsToLocals, Value.category, maxLocals]; done) | rfl
def Q0 (Z : State) (p1 : Int32) (p2 : Int32) (i0 : Addr) (i1 : Addr) (i2 : Addr) (i3 : Addr) (t0 : Addr) (t1 : Addr) (t2 : Addr) (t3 : Addr) (t4 : Addr) (t5 : Addr) (t6 : Addr) (t7 : Addr) (t8 : Addr) (t9 : Addr) (t10 : Addr) (t11 : Addr) (t12 : Addr) (t13 : Addr) (h0 : Heap) (n0 : Nat) (v : Option Value) (h : Heap) (L : List Loc) : Prop := v = some (.int (1 : Int32)) ∧ Fr n0 L
set_option maxRecDepth 65536 in
set_option maxHeartbeats 40000000 in
theorem rm0 (l : Launch) (Z : State) (a0 : Array Value) (hw : ∀ d ∈ tables_1, d.before a0 Z = true) (ws : List Jvm.Cond) (p1 : Int32) (p2 : Int32) (i0 : Addr) (i1 : Addr) (i2 : Addr) (i3 : Addr) (t0 : Addr) (t1 : Addr) (t2 : Addr) (t3 : Addr) (t4 : Addr) (t5 : Addr) (t6 : Addr) (t7 : Addr) (t8 : Addr) (t9 : Addr) (t10 : Addr) (t11 : Addr) (t12 : Addr) (t13 : Addr) (h0 : Heap) (n0 : Nat) (Z0 : n0 ≤ h0.size) (S_EAVT : Sta Z h0 "com/example/fir/fir/core/Index" "EAVT" "Lcom/example/fir/fir/core/Index;" (.ref i0)) (S_AEVT : Sta Z h0 "com/example/fir/fir/core/Index" "AEVT" "Lcom/example/fir/fir/core/Index;" (.ref i1)) (S_AVET : Sta Z h0 "com/example/fir/fir/core/Index" "AVET" "Lcom/example/fir/fir/core/Index;" (.ref i2)) (S_VAET : Sta Z h0 "com/example/fir/fir/core/Index" "VAET" "Lcom/example/fir/fir/core/Index;" (.ref i3)) (S_KEYWORD : Sta Z h0 "com/example/fir/fir/core/ValueType" "KEYWORD" "Lcom/example/fir/fir/core/ValueType;" (.ref t0)) (S_LONG : Sta Z h0 "com/example/fir/fir/core/ValueType" "LONG" "Lcom/example/fir/fir/core/ValueType;" (.ref t1)) (S_STRING : Sta Z h0 "com/example/fir/fir/core/ValueType" "STRING" "Lcom/example/fir/fir/core/ValueType;" (.ref t2)) (S_INSTANT : Sta Z h0 "com/example/fir/fir/core/ValueType" "INSTANT" "Lcom/example/fir/fir/core/ValueType;" (.ref t3)) (S_REF : Sta Z h0 "com/example/fir/fir/core/ValueType" "REF" "Lcom/example/fir/fir/core/ValueType;" (.ref t4)) (S_BOOLEAN : Sta Z h0 "com/example/fir/fir/core/ValueType" "BOOLEAN" "Lcom/example/fir/fir/core/ValueType;" (.ref t5)) (S_BIGDEC : Sta Z h0 "com/example/fir/fir/core/ValueType" "BIGDEC" "Lcom/example/fir/fir/core/ValueType;" (.ref t6)) (S_BIGINT : Sta Z h0 "com/example/fir/fir/core/ValueType" "BIGINT" "Lcom/example/fir/fir/core/ValueType;" (.ref t7)) (S_DOUBLE : Sta Z h0 "com/example/fir/fir/core/ValueType" "DOUBLE" "Lcom/example/fir/fir/core/ValueType;" (.ref t8)) (S_FLOAT : Sta Z h0 "com/example/fir/fir/core/ValueType" "FLOAT" "Lcom/example/fir/fir/core/ValueType;" (.ref t9)) (S_SYMBOL : Sta Z h0 "com/example/fir/fir/core/ValueType" "SYMBOL" "Lcom/example/fir/fir/core/ValueType;" (.ref t10)) (S_UUID : Sta Z h0 "com/example/fir/fir/core/ValueType" "UUID" "Lcom/example/fir/fir/core/ValueType;" (.ref t11)) (S_URI : Sta Z h0 "com/example/fir/fir/core/ValueType" "URI" "Lcom/example/fir/fir/core/ValueType;" (.ref t12)) (S_TUPLE : Sta Z h0 "com/example/fir/fir/core/ValueType" "TUPLE" "Lcom/example/fir/fir/core/ValueType;" (.ref t13)) (E_EAVT : Exa Z h0 i0 "com/example/fir/fir/core/Index") (E_AEVT : Exa Z h0 i1 "com/example/fir/fir/core/Index") (E_AVET : Exa Z h0 i2 "com/example/fir/fir/core/Index") (E_VAET : Exa Z h0 i3 "com/example/fir/fir/core/Index") (F_EAVT : Fld Z h0 i0 "com/example/fir/fir/core/Index" "only" "Lcom/example/fir/fir/core/ValueType;" .null) (F_AEVT : Fld Z h0 i1 "com/example/fir/fir/core/Index" "only" "Lcom/example/fir/fir/core/ValueType;" .null) (F_AVET : Fld Z h0 i2 "com/example/fir/fir/core/Index" "only" "Lcom/example/fir/fir/core/ValueType;" .null) (F_VAET : Fld Z h0 i3 "com/example/fir/fir/core/Index" "only" "Lcom/example/fir/fir/core/ValueType;" (.ref t4)) (nq0 : t4 ≠ t0) (nq1 : t4 ≠ t1) (nq2 : t4 ≠ t2) (nq3 : t4 ≠ t3) (nq5 : t4 ≠ t5) (nq6 : t4 ≠ t6) (nq7 : t4 ≠ t7) (nq8 : t4 ≠ t8) (nq9 : t4 ≠ t9) (nq10 : t4 ≠ t10) (nq11 : t4 ≠ t11) (nq12 : t4 ≠ t12) (nq13 : t4 ≠ t13) :
    MetFree l x (head1 (Jvm.Cond.code x code maxLocals ret :: ws) room_1) (fun ar UU => ar = #[(.int p1), (.int p2)] ∧ Z.Warmed39 UU.vm ∧ UU.heap = h0) (fun _ _ _ _ _ => True) (fun _ UU oo UU' => ∃ vv LL, oo = .returned vv ∧ Q0 Z p1 p2 i0 i1 i2 i3 t0 t1 t2 t3 t4 t5 t6 t7 t8 t9 t10 t11 t12 t13 h0 n0 vv UU'.heap LL ∧ FrameEnd UU oo UU' LL room_1.cells room_1.slots) := by
  refine MetFree.of_bodySF (plainFor_of_name pn_0) hisR ?_
  intro p e s m args below meth c s₁ Bd hml0 hP hK
  obtain ⟨rfl, hZ, hh⟩ := hP
  have hx := Bd.exec
  have hby := Bd.bytes
  have hml : c.maxLocals = 7 := hml0
  have hown : s.vm.findClass "com/example/fir/fir/core/IndexHoldsPinLaw" = some m.cls := findClass_of_methodNamed Bd.named
  have hnm := (name_of_methodNamed Bd.named Bd.method).1
  have X0 : Stand p l e room_1 s m #[(.int p1), (.int p2)] below meth c s₁ [] 0 0 := Stand.of_body Bd
  have e0 : s₁.heap = h0 := by rw [← hh, Bd.state]; rfl
  have N0 := Fr.nil n0
  have KC0 : Keep h0 h0 [] := Keep.refl h0 []
  have pre0 : ∀ tgt, Steps p.tables e below (s₁.setTop (mkF m 0 #[.val (.int p1), .val (.int p2), .unset, .unset, .unset, .unset, .unset] [])) tgt → Steps p.tables e below (s₁.setTop (entryFrame m #[(.int p1), (.int p2)] maxLocals)) tgt := fun tgt kk => castTop (ef_rm0 m (p1) (p2)) kk
  have pre1 : ∀ tgt, Steps p.tables e below (s₁.setTop (mkF m 13 #[.val (.int p1), .val (.int p2), .val (.int (p1 &&& (3 : Int32))), .val (.int ((p2 &&& (2147483647 : Int32)) % (14 : Int32))), .unset, .unset, .unset] [(.int (p1 &&& (3 : Int32)))])) tgt → Steps p.tables e below (s₁.setTop (entryFrame m #[(.int p1), (.int p2)] maxLocals)) tgt := by
    intro tgt kk
    refine pre0 tgt ?_
    refine XS.iloadN X0.here hx rfl (hb hby at_0) rfl ?_
    show Steps p.tables e below (s₁.setTop (mkF m 1 #[.val (.int p1), .val (.int p2), .unset, .unset, .unset, .unset, .unset] [(.int p1)])) _
    refine XS.iconst X0.here hx rfl (hb hby at_1) ?_
    show Steps p.tables e below (s₁.setTop (mkF m 2 #[.val (.int p1), .val (.int p2), .unset, .unset, .unset, .unset, .unset] [(.int (3 : Int32)), (.int p1)])) _
    refine XS.iand X0.here hx rfl (hb hby at_2) rfl ?_
    show Steps p.tables e below (s₁.setTop (mkF m 3 #[.val (.int p1), .val (.int p2), .unset, .unset, .unset, .unset, .unset] [(.int (p1 &&& (3 : Int32)))])) _
    refine XS.istoreN X0.here hx rfl (hb hby at_3) rfl (l' := #[.val (.int p1), .val (.int p2), .val (.int (p1 &&& (3 : Int32))), .unset, .unset, .unset, .unset]) rfl ?_
    show Steps p.tables e below (s₁.setTop (mkF m 4 #[.val (.int p1), .val (.int p2), .val (.int (p1 &&& (3 : Int32))), .unset, .unset, .unset, .unset] [])) _
    refine XS.iloadN X0.here hx rfl (hb hby at_4) rfl ?_
    show Steps p.tables e below (s₁.setTop (mkF m 5 #[.val (.int p1), .val (.int p2), .val (.int (p1 &&& (3 : Int32))), .unset, .unset, .unset, .unset] [(.int p2)])) _
    refine X0.ldcInt hx hown (mvT hZ (hw _ (List.mem_of_getElem? (i := 0) rfl))) (g := (mkF m 5 #[.val (.int p1), .val (.int p2), .val (.int (p1 &&& (3 : Int32))), .unset, .unset, .unset, .unset] [(.int p2)])) rfl (hb hby at_5) _ ?_
    show Steps p.tables e below (s₁.setTop (mkF m 7 #[.val (.int p1), .val (.int p2), .val (.int (p1 &&& (3 : Int32))), .unset, .unset, .unset, .unset] [(.int (2147483647 : Int32)), (.int p2)])) _
    refine XS.iand X0.here hx rfl (hb hby at_7) rfl ?_
    show Steps p.tables e below (s₁.setTop (mkF m 8 #[.val (.int p1), .val (.int p2), .val (.int (p1 &&& (3 : Int32))), .unset, .unset, .unset, .unset] [(.int (p2 &&& (2147483647 : Int32)))])) _
    refine XS.bipush X0.here hx rfl (hb hby at_8) ?_
    show Steps p.tables e below (s₁.setTop (mkF m 10 #[.val (.int p1), .val (.int p2), .val (.int (p1 &&& (3 : Int32))), .unset, .unset, .unset, .unset] [(.int (14 : Int32)), (.int (p2 &&& (2147483647 : Int32)))])) _
    refine iremM X0 hx rfl (hb hby at_10) rfl (by decide) ?_
    show Steps p.tables e below (s₁.setTop (mkF m 11 #[.val (.int p1), .val (.int p2), .val (.int (p1 &&& (3 : Int32))), .unset, .unset, .unset, .unset] [(.int ((p2 &&& (2147483647 : Int32)) % (14 : Int32)))])) _
    refine XS.istoreN X0.here hx rfl (hb hby at_11) rfl (l' := #[.val (.int p1), .val (.int p2), .val (.int (p1 &&& (3 : Int32))), .val (.int ((p2 &&& (2147483647 : Int32)) % (14 : Int32))), .unset, .unset, .unset]) rfl ?_
    show Steps p.tables e below (s₁.setTop (mkF m 12 #[.val (.int p1), .val (.int p2), .val (.int (p1 &&& (3 : Int32))), .val (.int ((p2 &&& (2147483647 : Int32)) % (14 : Int32))), .unset, .unset, .unset] [])) _
    refine XS.iloadN X0.here hx rfl (hb hby at_12) rfl ?_
    show Steps p.tables e below (s₁.setTop (mkF m 13 #[.val (.int p1), .val (.int p2), .val (.int (p1 &&& (3 : Int32))), .val (.int ((p2 &&& (2147483647 : Int32)) % (14 : Int32))), .unset, .unset, .unset] [(.int (p1 &&& (3 : Int32)))])) _
    exact kk
  obtain ⟨_, _, ⟨T2, L2, k2, n2⟩, -, X2, ⟨Lc2, hQ2, l2, y2, z2⟩, st2⟩ := Jvm.LawKit.callS X0 hx (y := (⟨"com/example/fir/fir/core/IndexHoldsPinLaw", "index", "(I)Lcom/example/fir/fir/core/Index;"⟩ : MethodName)) hown (mvT hZ (hw _ (List.mem_of_getElem? (i := 1) rfl))) (mvT hZ (hw _ (List.mem_of_getElem? (i := 2) rfl))) (mvT hZ (hw _ (List.mem_of_getElem? (i := 3) rfl))) (mvT hZ (hw _ (List.mem_of_getElem? (i := 4) rfl))) (by decide) (backOf (W := 0) (rmI l Z a0 hw [] (p1 &&& (3 : Int32)) i0 i1 i2 i3 h0 n0 Z0 S_EAVT S_AEVT S_AVET S_VAET) hZ (hw _ (List.mem_of_getElem? (i := 4) rfl)) (hw _ (List.mem_of_getElem? (i := 3) rfl)) (by decide) (by decide)) (g := (mkF m 13 #[.val (.int p1), .val (.int p2), .val (.int (p1 &&& (3 : Int32))), .val (.int ((p2 &&& (2147483647 : Int32)) % (14 : Int32))), .unset, .unset, .unset] [(.int (p1 &&& (3 : Int32)))])) rfl (by rw [hml]; rfl) (argsL := [(.int (p1 &&& (3 : Int32)))]) (rest := []) (lenOf pd__I_Lcom_example_fir_fir_core_Index_ rfl) rfl (by show 2 * 0 + _ ≤ _; exact Nat.le_of_eq rfl) (hb hby at_13) (fun _ _ => ⟨rfl, e0, (by decide : 0 + 0 ≤ _), (by decide : 0 + 0 ≤ _)⟩)
  dsimp only [Pt.U, Pt.locs, Pt.cells, Pt.slots] at X2 l2 y2 z2 st2 hQ2
  subst l2 y2 z2
  obtain ⟨rfl, N2q, hh2⟩ := hQ2
  have N2 := Fr.app N0 N2q
  have E_ix : Exa Z h0 (own_ix (p1 &&& (3 : Int32)) i0 i1 i2 i3) "com/example/fir/fir/core/Index" := own_ix_all (M := fun z => Exa Z h0 z "com/example/fir/fir/core/Index") E_EAVT E_AEVT E_AVET E_VAET
  have F_ix : Fld Z h0 (own_ix (p1 &&& (3 : Int32)) i0 i1 i2 i3) "com/example/fir/fir/core/Index" "only" "Lcom/example/fir/fir/core/ValueType;" (own_on (p1 &&& (3 : Int32)) t4) := own_ix_only (own_k p1) F_EAVT F_AEVT F_AVET F_VAET
  have pre3 : ∀ tgt, Steps p.tables e below (T2.setTop (mkF m 19 #[.val (.int p1), .val (.int p2), .val (.int (p1 &&& (3 : Int32))), .val (.int ((p2 &&& (2147483647 : Int32)) % (14 : Int32))), .val (.ref (own_ix (p1 &&& (3 : Int32)) i0 i1 i2 i3)), .unset, .unset] [(.int ((p2 &&& (2147483647 : Int32)) % (14 : Int32)))])) tgt → Steps p.tables e below (s₁.setTop (entryFrame m #[(.int p1), (.int p2)] maxLocals)) tgt := by
    intro tgt kk
    refine pre1 tgt ?_
    refine st2 _ ?_
    show Steps p.tables e below (T2.setTop (mkF m 16 #[.val (.int p1), .val (.int p2), .val (.int (p1 &&& (3 : Int32))), .val (.int ((p2 &&& (2147483647 : Int32)) % (14 : Int32))), .unset, .unset, .unset] [(.ref (own_ix (p1 &&& (3 : Int32)) i0 i1 i2 i3))])) _
    refine XS.astore X2.here hx rfl (hb hby at_16) rfl rfl (l' := #[.val (.int p1), .val (.int p2), .val (.int (p1 &&& (3 : Int32))), .val (.int ((p2 &&& (2147483647 : Int32)) % (14 : Int32))), .val (.ref (own_ix (p1 &&& (3 : Int32)) i0 i1 i2 i3)), .unset, .unset]) rfl ?_
    show Steps p.tables e below (T2.setTop (mkF m 18 #[.val (.int p1), .val (.int p2), .val (.int (p1 &&& (3 : Int32))), .val (.int ((p2 &&& (2147483647 : Int32)) % (14 : Int32))), .val (.ref (own_ix (p1 &&& (3 : Int32)) i0 i1 i2 i3)), .unset, .unset] [])) _
    refine XS.iloadN X2.here hx rfl (hb hby at_18) rfl ?_
    show Steps p.tables e below (T2.setTop (mkF m 19 #[.val (.int p1), .val (.int p2), .val (.int (p1 &&& (3 : Int32))), .val (.int ((p2 &&& (2147483647 : Int32)) % (14 : Int32))), .val (.ref (own_ix (p1 &&& (3 : Int32)) i0 i1 i2 i3)), .unset, .unset] [(.int ((p2 &&& (2147483647 : Int32)) % (14 : Int32)))])) _
    exact kk
  obtain ⟨_, _, ⟨T4, L4, k4, n4⟩, -, X4, ⟨Lc4, hQ4, l4, y4, z4⟩, st4⟩ := Jvm.LawKit.callS X2 hx (y := (⟨"com/example/fir/fir/core/IndexHoldsPinLaw", "type", "(I)Lcom/example/fir/fir/core/ValueType;"⟩ : MethodName)) hown (mvT hZ (hw _ (List.mem_of_getElem? (i := 8) rfl))) (mvT hZ (hw _ (List.mem_of_getElem? (i := 9) rfl))) (mvT hZ (hw _ (List.mem_of_getElem? (i := 3) rfl))) (mvT hZ (hw _ (List.mem_of_getElem? (i := 10) rfl))) (by decide) (backOf (W := 0) (rmT l Z a0 hw [] (((p2 &&& (2147483647 : Int32)) % (14 : Int32))) t0 t1 t2 t3 t4 t5 t6 t7 t8 t9 t10 t11 t12 t13 h0 n0 Z0 S_KEYWORD S_LONG S_STRING S_INSTANT S_REF S_BOOLEAN S_BIGDEC S_BIGINT S_DOUBLE S_FLOAT S_SYMBOL S_UUID S_URI S_TUPLE) hZ (hw _ (List.mem_of_getElem? (i := 10) rfl)) (hw _ (List.mem_of_getElem? (i := 3) rfl)) (by decide) (by decide)) (g := (mkF m 19 #[.val (.int p1), .val (.int p2), .val (.int (p1 &&& (3 : Int32))), .val (.int ((p2 &&& (2147483647 : Int32)) % (14 : Int32))), .val (.ref (own_ix (p1 &&& (3 : Int32)) i0 i1 i2 i3)), .unset, .unset] [(.int ((p2 &&& (2147483647 : Int32)) % (14 : Int32)))])) rfl (by rw [hml]; rfl) (argsL := [(.int ((p2 &&& (2147483647 : Int32)) % (14 : Int32)))]) (rest := []) (lenOf pd__I_Lcom_example_fir_fir_core_ValueType_ rfl) rfl (by show 2 * 0 + _ ≤ _; exact Nat.le_of_eq rfl) (hb hby at_19) (fun _ _ => ⟨rfl, hh2, (by decide : 0 + 0 ≤ _), (by decide : 0 + 0 ≤ _)⟩)
  dsimp only [Pt.U, Pt.locs, Pt.cells, Pt.slots] at X4 l4 y4 z4 st4 hQ4
  subst l4 y4 z4
  obtain ⟨rfl, N4q, hh4⟩ := hQ4
  have N4 := Fr.app N2 N4q
  have pre5 : ∀ tgt, Steps p.tables e below (T4.setTop (mkF m 26 #[.val (.int p1), .val (.int p2), .val (.int (p1 &&& (3 : Int32))), .val (.int ((p2 &&& (2147483647 : Int32)) % (14 : Int32))), .val (.ref (own_ix (p1 &&& (3 : Int32)) i0 i1 i2 i3)), .val (.ref (own_ty ((p2 &&& (2147483647 : Int32)) % (14 : Int32)) t0 t1 t2 t3 t4 t5 t6 t7 t8 t9 t10 t11 t12 t13)), .unset] [(.int (3 : Int32)), (.int (p1 &&& (3 : Int32)))])) tgt → Steps p.tables e below (s₁.setTop (entryFrame m #[(.int p1), (.int p2)] maxLocals)) tgt := by
    intro tgt kk
    refine pre3 tgt ?_
    refine st4 _ ?_
    show Steps p.tables e below (T4.setTop (mkF m 22 #[.val (.int p1), .val (.int p2), .val (.int (p1 &&& (3 : Int32))), .val (.int ((p2 &&& (2147483647 : Int32)) % (14 : Int32))), .val (.ref (own_ix (p1 &&& (3 : Int32)) i0 i1 i2 i3)), .unset, .unset] [(.ref (own_ty ((p2 &&& (2147483647 : Int32)) % (14 : Int32)) t0 t1 t2 t3 t4 t5 t6 t7 t8 t9 t10 t11 t12 t13))])) _
    refine XS.astore X4.here hx rfl (hb hby at_22) rfl rfl (l' := #[.val (.int p1), .val (.int p2), .val (.int (p1 &&& (3 : Int32))), .val (.int ((p2 &&& (2147483647 : Int32)) % (14 : Int32))), .val (.ref (own_ix (p1 &&& (3 : Int32)) i0 i1 i2 i3)), .val (.ref (own_ty ((p2 &&& (2147483647 : Int32)) % (14 : Int32)) t0 t1 t2 t3 t4 t5 t6 t7 t8 t9 t10 t11 t12 t13)), .unset]) rfl ?_
    show Steps p.tables e below (T4.setTop (mkF m 24 #[.val (.int p1), .val (.int p2), .val (.int (p1 &&& (3 : Int32))), .val (.int ((p2 &&& (2147483647 : Int32)) % (14 : Int32))), .val (.ref (own_ix (p1 &&& (3 : Int32)) i0 i1 i2 i3)), .val (.ref (own_ty ((p2 &&& (2147483647 : Int32)) % (14 : Int32)) t0 t1 t2 t3 t4 t5 t6 t7 t8 t9 t10 t11 t12 t13)), .unset] [])) _
    refine XS.iloadN X4.here hx rfl (hb hby at_24) rfl ?_
    show Steps p.tables e below (T4.setTop (mkF m 25 #[.val (.int p1), .val (.int p2), .val (.int (p1 &&& (3 : Int32))), .val (.int ((p2 &&& (2147483647 : Int32)) % (14 : Int32))), .val (.ref (own_ix (p1 &&& (3 : Int32)) i0 i1 i2 i3)), .val (.ref (own_ty ((p2 &&& (2147483647 : Int32)) % (14 : Int32)) t0 t1 t2 t3 t4 t5 t6 t7 t8 t9 t10 t11 t12 t13)), .unset] [(.int (p1 &&& (3 : Int32)))])) _
    refine XS.iconst X4.here hx rfl (hb hby at_25) ?_
    show Steps p.tables e below (T4.setTop (mkF m 26 #[.val (.int p1), .val (.int p2), .val (.int (p1 &&& (3 : Int32))), .val (.int ((p2 &&& (2147483647 : Int32)) % (14 : Int32))), .val (.ref (own_ix (p1 &&& (3 : Int32)) i0 i1 i2 i3)), .val (.ref (own_ty ((p2 &&& (2147483647 : Int32)) % (14 : Int32)) t0 t1 t2 t3 t4 t5 t6 t7 t8 t9 t10 t11 t12 t13)), .unset] [(.int (3 : Int32)), (.int (p1 &&& (3 : Int32)))])) _
    exact kk
  obtain ⟨T9, lo9, X9, N9, e9, pre9⟩ : ∃ (T' : State) (lo : List Loc), Stand p l e room_1 s m #[(.int p1), (.int p2)] below meth c T' lo 0 0 ∧ Fr n0 lo ∧ T'.heap = h0 ∧ ∀ tgt, Steps p.tables e below (T'.setTop (mkF m 39 #[.val (.int p1), .val (.int p2), .val (.int (p1 &&& (3 : Int32))), .val (.int ((p2 &&& (2147483647 : Int32)) % (14 : Int32))), .val (.ref (own_ix (p1 &&& (3 : Int32)) i0 i1 i2 i3)), .val (.ref (own_ty ((p2 &&& (2147483647 : Int32)) % (14 : Int32)) t0 t1 t2 t3 t4 t5 t6 t7 t8 t9 t10 t11 t12 t13)), .unset] [(.int (bI (((p1 &&& (3 : Int32)) = (3 : Int32)) → (((p2 &&& (2147483647 : Int32)) % (14 : Int32)) = (4 : Int32)))))])) tgt → Steps p.tables e below (s₁.setTop (entryFrame m #[(.int p1), (.int p2)] maxLocals)) tgt := by
    by_cases hc26_6 : (p1 &&& (3 : Int32)) = (3 : Int32)
    · skip
      have pre7 : ∀ tgt, Steps p.tables e below (T4.setTop (mkF m 31 #[.val (.int p1), .val (.int p2), .val (.int (p1 &&& (3 : Int32))), .val (.int ((p2 &&& (2147483647 : Int32)) % (14 : Int32))), .val (.ref (own_ix (p1 &&& (3 : Int32)) i0 i1 i2 i3)), .val (.ref (own_ty ((p2 &&& (2147483647 : Int32)) % (14 : Int32)) t0 t1 t2 t3 t4 t5 t6 t7 t8 t9 t10 t11 t12 t13)), .unset] [(.int (4 : Int32)), (.int ((p2 &&& (2147483647 : Int32)) % (14 : Int32)))])) tgt → Steps p.tables e below (s₁.setTop (entryFrame m #[(.int p1), (.int p2)] maxLocals)) tgt := by
        intro tgt kk
        refine pre5 tgt ?_
        refine XS.icmpNo X4.here hx rfl (hb hby at_26) rfl (XT.ii_ne_f hc26_6) ?_
        show Steps p.tables e below (T4.setTop (mkF m 29 #[.val (.int p1), .val (.int p2), .val (.int (p1 &&& (3 : Int32))), .val (.int ((p2 &&& (2147483647 : Int32)) % (14 : Int32))), .val (.ref (own_ix (p1 &&& (3 : Int32)) i0 i1 i2 i3)), .val (.ref (own_ty ((p2 &&& (2147483647 : Int32)) % (14 : Int32)) t0 t1 t2 t3 t4 t5 t6 t7 t8 t9 t10 t11 t12 t13)), .unset] [])) _
        refine XS.iloadN X4.here hx rfl (hb hby at_29) rfl ?_
        show Steps p.tables e below (T4.setTop (mkF m 30 #[.val (.int p1), .val (.int p2), .val (.int (p1 &&& (3 : Int32))), .val (.int ((p2 &&& (2147483647 : Int32)) % (14 : Int32))), .val (.ref (own_ix (p1 &&& (3 : Int32)) i0 i1 i2 i3)), .val (.ref (own_ty ((p2 &&& (2147483647 : Int32)) % (14 : Int32)) t0 t1 t2 t3 t4 t5 t6 t7 t8 t9 t10 t11 t12 t13)), .unset] [(.int ((p2 &&& (2147483647 : Int32)) % (14 : Int32)))])) _
        refine XS.iconst X4.here hx rfl (hb hby at_30) ?_
        show Steps p.tables e below (T4.setTop (mkF m 31 #[.val (.int p1), .val (.int p2), .val (.int (p1 &&& (3 : Int32))), .val (.int ((p2 &&& (2147483647 : Int32)) % (14 : Int32))), .val (.ref (own_ix (p1 &&& (3 : Int32)) i0 i1 i2 i3)), .val (.ref (own_ty ((p2 &&& (2147483647 : Int32)) % (14 : Int32)) t0 t1 t2 t3 t4 t5 t6 t7 t8 t9 t10 t11 t12 t13)), .unset] [(.int (4 : Int32)), (.int ((p2 &&& (2147483647 : Int32)) % (14 : Int32)))])) _
        exact kk
      by_cases hc31_8 : ((p2 &&& (2147483647 : Int32)) % (14 : Int32)) = (4 : Int32)
      · skip
        refine ⟨T4, _, X4, N4, hh4, fun tgt kk => ?_⟩
        have kq10 : ((.int (bI (((p1 &&& (3 : Int32)) = (3 : Int32)) → (((p2 &&& (2147483647 : Int32)) % (14 : Int32)) = (4 : Int32))))) : Value) = (.int (1 : Int32)) := ((congrArg Value.int (bI_iff (imp_iff_h hc26_6))).trans (congrArg Value.int (bI_t hc31_8)))
        rw [kq10] at kk
        refine pre7 tgt ?_
        refine XS.icmpNo X4.here hx rfl (hb hby at_31) rfl (XT.ii_ne_f hc31_8) ?_
        show Steps p.tables e below (T4.setTop (mkF m 34 #[.val (.int p1), .val (.int p2), .val (.int (p1 &&& (3 : Int32))), .val (.int ((p2 &&& (2147483647 : Int32)) % (14 : Int32))), .val (.ref (own_ix (p1 &&& (3 : Int32)) i0 i1 i2 i3)), .val (.ref (own_ty ((p2 &&& (2147483647 : Int32)) % (14 : Int32)) t0 t1 t2 t3 t4 t5 t6 t7 t8 t9 t10 t11 t12 t13)), .unset] [])) _
        refine XS.iconst X4.here hx rfl (hb hby at_34) ?_
        show Steps p.tables e below (T4.setTop (mkF m 35 #[.val (.int p1), .val (.int p2), .val (.int (p1 &&& (3 : Int32))), .val (.int ((p2 &&& (2147483647 : Int32)) % (14 : Int32))), .val (.ref (own_ix (p1 &&& (3 : Int32)) i0 i1 i2 i3)), .val (.ref (own_ty ((p2 &&& (2147483647 : Int32)) % (14 : Int32)) t0 t1 t2 t3 t4 t5 t6 t7 t8 t9 t10 t11 t12 t13)), .unset] [(.int (1 : Int32))])) _
        refine XS.goto X4.here hx rfl (pc0 := 35) (pc' := 39) rfl (hb hby at_35) (by decide) (by decide) ?_
        show Steps p.tables e below (T4.setTop (mkF m 39 #[.val (.int p1), .val (.int p2), .val (.int (p1 &&& (3 : Int32))), .val (.int ((p2 &&& (2147483647 : Int32)) % (14 : Int32))), .val (.ref (own_ix (p1 &&& (3 : Int32)) i0 i1 i2 i3)), .val (.ref (own_ty ((p2 &&& (2147483647 : Int32)) % (14 : Int32)) t0 t1 t2 t3 t4 t5 t6 t7 t8 t9 t10 t11 t12 t13)), .unset] [(.int (1 : Int32))])) _
        exact kk
      · skip
        refine ⟨T4, _, X4, N4, hh4, fun tgt kk => ?_⟩
        have kq11 : ((.int (bI (((p1 &&& (3 : Int32)) = (3 : Int32)) → (((p2 &&& (2147483647 : Int32)) % (14 : Int32)) = (4 : Int32))))) : Value) = (.int (0 : Int32)) := ((congrArg Value.int (bI_iff (imp_iff_h hc26_6))).trans (congrArg Value.int (bI_f hc31_8)))
        rw [kq11] at kk
        refine pre7 tgt ?_
        refine XS.icmpYes X4.here hx rfl (pc0 := 31) (pc' := 38) rfl (hb hby at_31) rfl (XT.ii_ne_t hc31_8) (by decide) (by decide) ?_
        show Steps p.tables e below (T4.setTop (mkF m 38 #[.val (.int p1), .val (.int p2), .val (.int (p1 &&& (3 : Int32))), .val (.int ((p2 &&& (2147483647 : Int32)) % (14 : Int32))), .val (.ref (own_ix (p1 &&& (3 : Int32)) i0 i1 i2 i3)), .val (.ref (own_ty ((p2 &&& (2147483647 : Int32)) % (14 : Int32)) t0 t1 t2 t3 t4 t5 t6 t7 t8 t9 t10 t11 t12 t13)), .unset] [])) _
        refine XS.iconst X4.here hx rfl (hb hby at_38) ?_
        show Steps p.tables e below (T4.setTop (mkF m 39 #[.val (.int p1), .val (.int p2), .val (.int (p1 &&& (3 : Int32))), .val (.int ((p2 &&& (2147483647 : Int32)) % (14 : Int32))), .val (.ref (own_ix (p1 &&& (3 : Int32)) i0 i1 i2 i3)), .val (.ref (own_ty ((p2 &&& (2147483647 : Int32)) % (14 : Int32)) t0 t1 t2 t3 t4 t5 t6 t7 t8 t9 t10 t11 t12 t13)), .unset] [(.int (0 : Int32))])) _
        exact kk
    · skip
      refine ⟨T4, _, X4, N4, hh4, fun tgt kk => ?_⟩
      have kq12 : ((.int (bI (((p1 &&& (3 : Int32)) = (3 : Int32)) → (((p2 &&& (2147483647 : Int32)) % (14 : Int32)) = (4 : Int32))))) : Value) = (.int (1 : Int32)) := (congrArg Value.int (bI_t (fun q => absurd q hc26_6)))
      rw [kq12] at kk
      refine pre5 tgt ?_
      refine XS.icmpYes X4.here hx rfl (pc0 := 26) (pc' := 34) rfl (hb hby at_26) rfl (XT.ii_ne_t hc26_6) (by decide) (by decide) ?_
      show Steps p.tables e below (T4.setTop (mkF m 34 #[.val (.int p1), .val (.int p2), .val (.int (p1 &&& (3 : Int32))), .val (.int ((p2 &&& (2147483647 : Int32)) % (14 : Int32))), .val (.ref (own_ix (p1 &&& (3 : Int32)) i0 i1 i2 i3)), .val (.ref (own_ty ((p2 &&& (2147483647 : Int32)) % (14 : Int32)) t0 t1 t2 t3 t4 t5 t6 t7 t8 t9 t10 t11 t12 t13)), .unset] [])) _
      refine XS.iconst X4.here hx rfl (hb hby at_34) ?_
      show Steps p.tables e below (T4.setTop (mkF m 35 #[.val (.int p1), .val (.int p2), .val (.int (p1 &&& (3 : Int32))), .val (.int ((p2 &&& (2147483647 : Int32)) % (14 : Int32))), .val (.ref (own_ix (p1 &&& (3 : Int32)) i0 i1 i2 i3)), .val (.ref (own_ty ((p2 &&& (2147483647 : Int32)) % (14 : Int32)) t0 t1 t2 t3 t4 t5 t6 t7 t8 t9 t10 t11 t12 t13)), .unset] [(.int (1 : Int32))])) _
      refine XS.goto X4.here hx rfl (pc0 := 35) (pc' := 39) rfl (hb hby at_35) (by decide) (by decide) ?_
      show Steps p.tables e below (T4.setTop (mkF m 39 #[.val (.int p1), .val (.int p2), .val (.int (p1 &&& (3 : Int32))), .val (.int ((p2 &&& (2147483647 : Int32)) % (14 : Int32))), .val (.ref (own_ix (p1 &&& (3 : Int32)) i0 i1 i2 i3)), .val (.ref (own_ty ((p2 &&& (2147483647 : Int32)) % (14 : Int32)) t0 t1 t2 t3 t4 t5 t6 t7 t8 t9 t10 t11 t12 t13)), .unset] [(.int (1 : Int32))])) _
      exact kk
  have pre13 : ∀ tgt, Steps p.tables e below (T9.setTop (mkF m 45 #[.val (.int p1), .val (.int p2), .val (.int (p1 &&& (3 : Int32))), .val (.int ((p2 &&& (2147483647 : Int32)) % (14 : Int32))), .val (.ref (own_ix (p1 &&& (3 : Int32)) i0 i1 i2 i3)), .val (.ref (own_ty ((p2 &&& (2147483647 : Int32)) % (14 : Int32)) t0 t1 t2 t3 t4 t5 t6 t7 t8 t9 t10 t11 t12 t13)), .val (.int (bI (((p1 &&& (3 : Int32)) = (3 : Int32)) → (((p2 &&& (2147483647 : Int32)) % (14 : Int32)) = (4 : Int32)))))] [(.ref (own_ty ((p2 &&& (2147483647 : Int32)) % (14 : Int32)) t0 t1 t2 t3 t4 t5 t6 t7 t8 t9 t10 t11 t12 t13)), (.ref (own_ix (p1 &&& (3 : Int32)) i0 i1 i2 i3))])) tgt → Steps p.tables e below (s₁.setTop (entryFrame m #[(.int p1), (.int p2)] maxLocals)) tgt := by
    intro tgt kk
    refine pre9 tgt ?_
    refine XS.istore X9.here hx rfl (hb hby at_39) rfl (l' := #[.val (.int p1), .val (.int p2), .val (.int (p1 &&& (3 : Int32))), .val (.int ((p2 &&& (2147483647 : Int32)) % (14 : Int32))), .val (.ref (own_ix (p1 &&& (3 : Int32)) i0 i1 i2 i3)), .val (.ref (own_ty ((p2 &&& (2147483647 : Int32)) % (14 : Int32)) t0 t1 t2 t3 t4 t5 t6 t7 t8 t9 t10 t11 t12 t13)), .val (.int (bI (((p1 &&& (3 : Int32)) = (3 : Int32)) → (((p2 &&& (2147483647 : Int32)) % (14 : Int32)) = (4 : Int32)))))]) rfl ?_
    show Steps p.tables e below (T9.setTop (mkF m 41 #[.val (.int p1), .val (.int p2), .val (.int (p1 &&& (3 : Int32))), .val (.int ((p2 &&& (2147483647 : Int32)) % (14 : Int32))), .val (.ref (own_ix (p1 &&& (3 : Int32)) i0 i1 i2 i3)), .val (.ref (own_ty ((p2 &&& (2147483647 : Int32)) % (14 : Int32)) t0 t1 t2 t3 t4 t5 t6 t7 t8 t9 t10 t11 t12 t13)), .val (.int (bI (((p1 &&& (3 : Int32)) = (3 : Int32)) → (((p2 &&& (2147483647 : Int32)) % (14 : Int32)) = (4 : Int32)))))] [])) _
    refine XS.aload X9.here hx rfl (hb hby at_41) rfl rfl ?_
    show Steps p.tables e below (T9.setTop (mkF m 43 #[.val (.int p1), .val (.int p2), .val (.int (p1 &&& (3 : Int32))), .val (.int ((p2 &&& (2147483647 : Int32)) % (14 : Int32))), .val (.ref (own_ix (p1 &&& (3 : Int32)) i0 i1 i2 i3)), .val (.ref (own_ty ((p2 &&& (2147483647 : Int32)) % (14 : Int32)) t0 t1 t2 t3 t4 t5 t6 t7 t8 t9 t10 t11 t12 t13)), .val (.int (bI (((p1 &&& (3 : Int32)) = (3 : Int32)) → (((p2 &&& (2147483647 : Int32)) % (14 : Int32)) = (4 : Int32)))))] [(.ref (own_ix (p1 &&& (3 : Int32)) i0 i1 i2 i3))])) _
    refine XS.aload X9.here hx rfl (hb hby at_43) rfl rfl ?_
    show Steps p.tables e below (T9.setTop (mkF m 45 #[.val (.int p1), .val (.int p2), .val (.int (p1 &&& (3 : Int32))), .val (.int ((p2 &&& (2147483647 : Int32)) % (14 : Int32))), .val (.ref (own_ix (p1 &&& (3 : Int32)) i0 i1 i2 i3)), .val (.ref (own_ty ((p2 &&& (2147483647 : Int32)) % (14 : Int32)) t0 t1 t2 t3 t4 t5 t6 t7 t8 t9 t10 t11 t12 t13)), .val (.int (bI (((p1 &&& (3 : Int32)) = (3 : Int32)) → (((p2 &&& (2147483647 : Int32)) % (14 : Int32)) = (4 : Int32)))))] [(.ref (own_ty ((p2 &&& (2147483647 : Int32)) % (14 : Int32)) t0 t1 t2 t3 t4 t5 t6 t7 t8 t9 t10 t11 t12 t13)), (.ref (own_ix (p1 &&& (3 : Int32)) i0 i1 i2 i3))])) _
    exact kk
  obtain ⟨cq14, kq14, q14a, q14b, q14c⟩ := isOf hZ e9 E_ix
  obtain ⟨_, _, ⟨T14, L14, k14, n14⟩, -, X14, ⟨Lc14, hQ14, l14, y14, z14⟩, st14⟩ := X9.virtualBack hx (y := (⟨"com/example/fir/fir/core/Index", "holds", "(Lcom/example/fir/fir/core/ValueType;)Z"⟩ : MethodName)) (z := (⟨"com/example/fir/fir/core/Index", "holds", "(Lcom/example/fir/fir/core/ValueType;)Z"⟩ : MethodName)) hown (mvT hZ (hw _ (List.mem_of_getElem? (i := 14) rfl))) (mvT hZ (hw _ (List.mem_of_getElem? (i := 15) rfl))) (notFace_of_selects (args := #[]) (mvT hZ (hw _ (List.mem_of_getElem? (i := 17) rfl)))) (mvT hZ (hw _ (List.mem_of_getElem? (i := 17) rfl))) (mvT hZ (hw _ (List.mem_of_getElem? (i := 16) rfl))) (by decide) (backOf (W := 0) (rmH l Z a0 hw [] (own_ix (p1 &&& (3 : Int32)) i0 i1 i2 i3) (own_ty ((p2 &&& (2147483647 : Int32)) % (14 : Int32)) t0 t1 t2 t3 t4 t5 t6 t7 t8 t9 t10 t11 t12 t13) (own_on (p1 &&& (3 : Int32)) t4) h0 n0 Z0 F_ix own_on_ref) hZ (hw _ (List.mem_of_getElem? (i := 18) rfl)) (hw _ (List.mem_of_getElem? (i := 6) rfl)) (by decide) (by decide)) q14a q14c (g := (mkF m 45 #[.val (.int p1), .val (.int p2), .val (.int (p1 &&& (3 : Int32))), .val (.int ((p2 &&& (2147483647 : Int32)) % (14 : Int32))), .val (.ref (own_ix (p1 &&& (3 : Int32)) i0 i1 i2 i3)), .val (.ref (own_ty ((p2 &&& (2147483647 : Int32)) % (14 : Int32)) t0 t1 t2 t3 t4 t5 t6 t7 t8 t9 t10 t11 t12 t13)), .val (.int (bI (((p1 &&& (3 : Int32)) = (3 : Int32)) → (((p2 &&& (2147483647 : Int32)) % (14 : Int32)) = (4 : Int32)))))] [(.ref (own_ty ((p2 &&& (2147483647 : Int32)) % (14 : Int32)) t0 t1 t2 t3 t4 t5 t6 t7 t8 t9 t10 t11 t12 t13)), (.ref (own_ix (p1 &&& (3 : Int32)) i0 i1 i2 i3))])) rfl (by rw [hml]; rfl) (Steps.refl _) (argsL := [(.ref (own_ty ((p2 &&& (2147483647 : Int32)) % (14 : Int32)) t0 t1 t2 t3 t4 t5 t6 t7 t8 t9 t10 t11 t12 t13))]) (rest := []) (lenOf pd__Lcom_example_fir_fir_core_ValueType__Z rfl) rfl (by show 2 * 0 + _ ≤ _; exact Nat.le_of_eq rfl) (hb hby at_45) (fun _ _ => ⟨rfl, e9, (by decide : 0 + 0 ≤ _), (by decide : 0 + 0 ≤ _)⟩)
  dsimp only [Pt.U, Pt.locs, Pt.cells, Pt.slots] at X14 l14 y14 z14 st14 hQ14
  subst l14 y14 z14
  obtain ⟨rfl, N14q, hh14⟩ := hQ14
  have N14 := Fr.app N9 N14q
  have pre15 : ∀ tgt, Steps p.tables e below (T14.setTop (mkF m 50 #[.val (.int p1), .val (.int p2), .val (.int (p1 &&& (3 : Int32))), .val (.int ((p2 &&& (2147483647 : Int32)) % (14 : Int32))), .val (.ref (own_ix (p1 &&& (3 : Int32)) i0 i1 i2 i3)), .val (.ref (own_ty ((p2 &&& (2147483647 : Int32)) % (14 : Int32)) t0 t1 t2 t3 t4 t5 t6 t7 t8 t9 t10 t11 t12 t13)), .val (.int (bI (((p1 &&& (3 : Int32)) = (3 : Int32)) → (((p2 &&& (2147483647 : Int32)) % (14 : Int32)) = (4 : Int32)))))] [(.int (bI (((p1 &&& (3 : Int32)) = (3 : Int32)) → (((p2 &&& (2147483647 : Int32)) % (14 : Int32)) = (4 : Int32))))), (.int (bI (((own_on (p1 &&& (3 : Int32)) t4) = .null) ∨ (((own_on (p1 &&& (3 : Int32)) t4) : Value) = (.ref (own_ty ((p2 &&& (2147483647 : Int32)) % (14 : Int32)) t0 t1 t2 t3 t4 t5 t6 t7 t8 t9 t10 t11 t12 t13))))))])) tgt → Steps p.tables e below (s₁.setTop (entryFrame m #[(.int p1), (.int p2)] maxLocals)) tgt := by
    intro tgt kk
    refine pre13 tgt ?_
    refine st14.trans ?_
    show Steps p.tables e below (T14.setTop (mkF m 48 #[.val (.int p1), .val (.int p2), .val (.int (p1 &&& (3 : Int32))), .val (.int ((p2 &&& (2147483647 : Int32)) % (14 : Int32))), .val (.ref (own_ix (p1 &&& (3 : Int32)) i0 i1 i2 i3)), .val (.ref (own_ty ((p2 &&& (2147483647 : Int32)) % (14 : Int32)) t0 t1 t2 t3 t4 t5 t6 t7 t8 t9 t10 t11 t12 t13)), .val (.int (bI (((p1 &&& (3 : Int32)) = (3 : Int32)) → (((p2 &&& (2147483647 : Int32)) % (14 : Int32)) = (4 : Int32)))))] [(.int (bI (((own_on (p1 &&& (3 : Int32)) t4) = .null) ∨ (((own_on (p1 &&& (3 : Int32)) t4) : Value) = (.ref (own_ty ((p2 &&& (2147483647 : Int32)) % (14 : Int32)) t0 t1 t2 t3 t4 t5 t6 t7 t8 t9 t10 t11 t12 t13))))))])) _
    refine XS.iload X14.here hx rfl (hb hby at_48) rfl ?_
    show Steps p.tables e below (T14.setTop (mkF m 50 #[.val (.int p1), .val (.int p2), .val (.int (p1 &&& (3 : Int32))), .val (.int ((p2 &&& (2147483647 : Int32)) % (14 : Int32))), .val (.ref (own_ix (p1 &&& (3 : Int32)) i0 i1 i2 i3)), .val (.ref (own_ty ((p2 &&& (2147483647 : Int32)) % (14 : Int32)) t0 t1 t2 t3 t4 t5 t6 t7 t8 t9 t10 t11 t12 t13)), .val (.int (bI (((p1 &&& (3 : Int32)) = (3 : Int32)) → (((p2 &&& (2147483647 : Int32)) % (14 : Int32)) = (4 : Int32)))))] [(.int (bI (((p1 &&& (3 : Int32)) = (3 : Int32)) → (((p2 &&& (2147483647 : Int32)) % (14 : Int32)) = (4 : Int32))))), (.int (bI (((own_on (p1 &&& (3 : Int32)) t4) = .null) ∨ (((own_on (p1 &&& (3 : Int32)) t4) : Value) = (.ref (own_ty ((p2 &&& (2147483647 : Int32)) % (14 : Int32)) t0 t1 t2 t3 t4 t5 t6 t7 t8 t9 t10 t11 t12 t13))))))])) _
    exact kk
  obtain ⟨T17, lo17, X17, N17, e17, pre17⟩ : ∃ (T' : State) (lo : List Loc), Stand p l e room_1 s m #[(.int p1), (.int p2)] below meth c T' lo 0 0 ∧ Fr n0 lo ∧ T'.heap = h0 ∧ ∀ tgt, Steps p.tables e below (T'.setTop (mkF m 58 #[.val (.int p1), .val (.int p2), .val (.int (p1 &&& (3 : Int32))), .val (.int ((p2 &&& (2147483647 : Int32)) % (14 : Int32))), .val (.ref (own_ix (p1 &&& (3 : Int32)) i0 i1 i2 i3)), .val (.ref (own_ty ((p2 &&& (2147483647 : Int32)) % (14 : Int32)) t0 t1 t2 t3 t4 t5 t6 t7 t8 t9 t10 t11 t12 t13)), .val (.int (bI (((p1 &&& (3 : Int32)) = (3 : Int32)) → (((p2 &&& (2147483647 : Int32)) % (14 : Int32)) = (4 : Int32)))))] [(.int (bI ((((own_on (p1 &&& (3 : Int32)) t4) = .null) ∨ (((own_on (p1 &&& (3 : Int32)) t4) : Value) = (.ref (own_ty ((p2 &&& (2147483647 : Int32)) % (14 : Int32)) t0 t1 t2 t3 t4 t5 t6 t7 t8 t9 t10 t11 t12 t13)))) ↔ (((p1 &&& (3 : Int32)) = (3 : Int32)) → (((p2 &&& (2147483647 : Int32)) % (14 : Int32)) = (4 : Int32))))))])) tgt → Steps p.tables e below (s₁.setTop (entryFrame m #[(.int p1), (.int p2)] maxLocals)) tgt := by
    by_cases hc50_16 : (((own_on (p1 &&& (3 : Int32)) t4) = .null) ∨ (((own_on (p1 &&& (3 : Int32)) t4) : Value) = (.ref (own_ty ((p2 &&& (2147483647 : Int32)) % (14 : Int32)) t0 t1 t2 t3 t4 t5 t6 t7 t8 t9 t10 t11 t12 t13)))) ↔ (((p1 &&& (3 : Int32)) = (3 : Int32)) → (((p2 &&& (2147483647 : Int32)) % (14 : Int32)) = (4 : Int32)))
    · skip
      refine ⟨T14, _, X14, N14, hh14, fun tgt kk => ?_⟩
      have kq18 : ((.int (bI ((((own_on (p1 &&& (3 : Int32)) t4) = .null) ∨ (((own_on (p1 &&& (3 : Int32)) t4) : Value) = (.ref (own_ty ((p2 &&& (2147483647 : Int32)) % (14 : Int32)) t0 t1 t2 t3 t4 t5 t6 t7 t8 t9 t10 t11 t12 t13)))) ↔ (((p1 &&& (3 : Int32)) = (3 : Int32)) → (((p2 &&& (2147483647 : Int32)) % (14 : Int32)) = (4 : Int32)))))) : Value) = (.int (1 : Int32)) := (congrArg Value.int (bI_t hc50_16))
      rw [kq18] at kk
      refine pre15 tgt ?_
      refine XS.icmpNo X14.here hx rfl (hb hby at_50) rfl (XT.ii_ne_f (bI_eq.mpr hc50_16)) ?_
      show Steps p.tables e below (T14.setTop (mkF m 53 #[.val (.int p1), .val (.int p2), .val (.int (p1 &&& (3 : Int32))), .val (.int ((p2 &&& (2147483647 : Int32)) % (14 : Int32))), .val (.ref (own_ix (p1 &&& (3 : Int32)) i0 i1 i2 i3)), .val (.ref (own_ty ((p2 &&& (2147483647 : Int32)) % (14 : Int32)) t0 t1 t2 t3 t4 t5 t6 t7 t8 t9 t10 t11 t12 t13)), .val (.int (bI (((p1 &&& (3 : Int32)) = (3 : Int32)) → (((p2 &&& (2147483647 : Int32)) % (14 : Int32)) = (4 : Int32)))))] [])) _
      refine XS.iconst X14.here hx rfl (hb hby at_53) ?_
      show Steps p.tables e below (T14.setTop (mkF m 54 #[.val (.int p1), .val (.int p2), .val (.int (p1 &&& (3 : Int32))), .val (.int ((p2 &&& (2147483647 : Int32)) % (14 : Int32))), .val (.ref (own_ix (p1 &&& (3 : Int32)) i0 i1 i2 i3)), .val (.ref (own_ty ((p2 &&& (2147483647 : Int32)) % (14 : Int32)) t0 t1 t2 t3 t4 t5 t6 t7 t8 t9 t10 t11 t12 t13)), .val (.int (bI (((p1 &&& (3 : Int32)) = (3 : Int32)) → (((p2 &&& (2147483647 : Int32)) % (14 : Int32)) = (4 : Int32)))))] [(.int (1 : Int32))])) _
      refine XS.goto X14.here hx rfl (pc0 := 54) (pc' := 58) rfl (hb hby at_54) (by decide) (by decide) ?_
      show Steps p.tables e below (T14.setTop (mkF m 58 #[.val (.int p1), .val (.int p2), .val (.int (p1 &&& (3 : Int32))), .val (.int ((p2 &&& (2147483647 : Int32)) % (14 : Int32))), .val (.ref (own_ix (p1 &&& (3 : Int32)) i0 i1 i2 i3)), .val (.ref (own_ty ((p2 &&& (2147483647 : Int32)) % (14 : Int32)) t0 t1 t2 t3 t4 t5 t6 t7 t8 t9 t10 t11 t12 t13)), .val (.int (bI (((p1 &&& (3 : Int32)) = (3 : Int32)) → (((p2 &&& (2147483647 : Int32)) % (14 : Int32)) = (4 : Int32)))))] [(.int (1 : Int32))])) _
      exact kk
    · skip
      refine ⟨T14, _, X14, N14, hh14, fun tgt kk => ?_⟩
      have kq19 : ((.int (bI ((((own_on (p1 &&& (3 : Int32)) t4) = .null) ∨ (((own_on (p1 &&& (3 : Int32)) t4) : Value) = (.ref (own_ty ((p2 &&& (2147483647 : Int32)) % (14 : Int32)) t0 t1 t2 t3 t4 t5 t6 t7 t8 t9 t10 t11 t12 t13)))) ↔ (((p1 &&& (3 : Int32)) = (3 : Int32)) → (((p2 &&& (2147483647 : Int32)) % (14 : Int32)) = (4 : Int32)))))) : Value) = (.int (0 : Int32)) := (congrArg Value.int (bI_f hc50_16))
      rw [kq19] at kk
      refine pre15 tgt ?_
      refine XS.icmpYes X14.here hx rfl (pc0 := 50) (pc' := 57) rfl (hb hby at_50) rfl (XT.ii_ne_t (fun q => hc50_16 (bI_eq.mp q))) (by decide) (by decide) ?_
      show Steps p.tables e below (T14.setTop (mkF m 57 #[.val (.int p1), .val (.int p2), .val (.int (p1 &&& (3 : Int32))), .val (.int ((p2 &&& (2147483647 : Int32)) % (14 : Int32))), .val (.ref (own_ix (p1 &&& (3 : Int32)) i0 i1 i2 i3)), .val (.ref (own_ty ((p2 &&& (2147483647 : Int32)) % (14 : Int32)) t0 t1 t2 t3 t4 t5 t6 t7 t8 t9 t10 t11 t12 t13)), .val (.int (bI (((p1 &&& (3 : Int32)) = (3 : Int32)) → (((p2 &&& (2147483647 : Int32)) % (14 : Int32)) = (4 : Int32)))))] [])) _
      refine XS.iconst X14.here hx rfl (hb hby at_57) ?_
      show Steps p.tables e below (T14.setTop (mkF m 58 #[.val (.int p1), .val (.int p2), .val (.int (p1 &&& (3 : Int32))), .val (.int ((p2 &&& (2147483647 : Int32)) % (14 : Int32))), .val (.ref (own_ix (p1 &&& (3 : Int32)) i0 i1 i2 i3)), .val (.ref (own_ty ((p2 &&& (2147483647 : Int32)) % (14 : Int32)) t0 t1 t2 t3 t4 t5 t6 t7 t8 t9 t10 t11 t12 t13)), .val (.int (bI (((p1 &&& (3 : Int32)) = (3 : Int32)) → (((p2 &&& (2147483647 : Int32)) % (14 : Int32)) = (4 : Int32)))))] [(.int (0 : Int32))])) _
      exact kk
  obtain ⟨fs, hr, hrun, hended, hW, hsame⟩ := X17.leave (v := some (.int (nar .boolean (bI ((((own_on (p1 &&& (3 : Int32)) t4) = .null) ∨ (((own_on (p1 &&& (3 : Int32)) t4) : Value) = (.ref (own_ty ((p2 &&& (2147483647 : Int32)) % (14 : Int32)) t0 t1 t2 t3 t4 t5 t6 t7 t8 t9 t10 t11 t12 t13)))) ↔ (((p1 &&& (3 : Int32)) = (3 : Int32)) → (((p2 &&& (2147483647 : Int32)) % (14 : Int32)) = (4 : Int32)))))))) (fun h => by rw [Bd.returns] at h; cases h)
  refine ⟨_, _, pre17 _ ?_, hrun, hended, _, _, rfl, ?_, ⟨_, rfl⟩, hW, hsame.mono (by decide) (by decide)⟩
  · skip
    exact retN X17 hx (t := .boolean) Bd.returns (by simp) (hb hby at_58) hr
  · show Q0 Z p1 p2 i0 i1 i2 i3 t0 t1 t2 t3 t4 t5 t6 t7 t8 t9 t10 t11 t12 t13 h0 n0 _ T17.heap _
    rw [e17]
    exact ⟨bI_one (own_end nq0 nq1 nq2 nq3 nq5 nq6 nq7 nq8 nq9 nq10 nq11 nq12 nq13), N17⟩
set_option maxRecDepth 65536 in
set_option maxHeartbeats 40000000 in
theorem comes_1 {Post : Tables → Env → Array Value → State → Outcome → State → Prop} (hpost : ∀ tb e args s v u, (limb_1_1.after args s (.returned v) u = true ∧ limb_1_2.after args s (.returned v) u = true ∧ True) → FrameEnd s (.returned v) u (Jvm.fieldLocs frame_1_writes args s ++ Jvm.arrayLocs frame_1_arrays args s ++ Jvm.staticLocs frame_1_statics s) 0 0 → Post tb e args s (.returned v) u) :
    ArmFor flags0 classFile x code maxLocals ret World_1 tables_1 room_1 Calls_1 rest_1 Pre_1 Post := by
  intro l hfl _ _ p e ha hc hk s m args below hf hA hF happ hP
  obtain ⟨hcalls, hrest, hpre⟩ := hP
  obtain ⟨-, -, -, hnamed, -, -, -, hat⟩ := (Spec.applies_iff hf).mp happ
  obtain ⟨hg, hn⟩ := and_e (Cond.before_iff.mp (show (Jvm.Cond.and given_1 narrow_1).before args s = true from hpre))
  obtain ⟨hcount, g0⟩ := and_e hg
  obtain ⟨ga0, g1⟩ := and_e g0
  have ga1 := g1
  obtain ⟨w0, w1, rfl⟩ : ∃ w0 w1 : Value, args = #[w0, w1] := by
    have hs : args.size = 2 := by simpa [Cond.value, given_1] using hcount
    obtain ⟨L⟩ := args
    match L, hs with
    | [w0, w1], _ => exact ⟨w0, w1, rfl⟩
  have hw := fun d (hd : d ∈ tables_1) => atoms_spec (ws := Jvm.Cond.code x code maxLocals ret :: tables_1) hat d (List.mem_cons_of_mem _ hd)
  have hfit : Fit s := fun {y c} hc i hi => by
    obtain ⟨ha, rfl⟩ := Array.getElem?_eq_some_iff.mp hc
    have q := List.all_eq_true.mp ((Array.all_eq_true_iff_forall_mem.mp hF) _ (Array.getElem_mem ha)) i (List.mem_range.mpr hi)
    simpa [Array.getElem?_eq_getElem hi] using q
  obtain ⟨i0, ei0⟩ := is_v ga0
  obtain rfl : w0 = (.int i0) := Option.some.inj ei0
  obtain ⟨i1, ei1⟩ := is_v ga1
  obtain rfl : w1 = (.int i1) := Option.some.inj ei1
  obtain ⟨hn_0, hr_0⟩ := and_e hn
  obtain ⟨hn_1, hr_1⟩ := and_e hr_0
  obtain ⟨hn_2, hr_2⟩ := and_e hr_1
  obtain ⟨hn_3, hr_3⟩ := and_e hr_2
  obtain ⟨hn_4, hr_4⟩ := and_e hr_3
  obtain ⟨hn_5, hr_5⟩ := and_e hr_4
  obtain ⟨hn_6, hr_6⟩ := and_e hr_5
  obtain ⟨hn_7, hr_7⟩ := and_e hr_6
  obtain ⟨hn_8, hr_8⟩ := and_e hr_7
  obtain ⟨hn_9, hr_9⟩ := and_e hr_8
  obtain ⟨hn_10, hr_10⟩ := and_e hr_9
  obtain ⟨hn_11, hr_11⟩ := and_e hr_10
  obtain ⟨hn_12, hr_12⟩ := and_e hr_11
  obtain ⟨hn_13, hr_13⟩ := and_e hr_12
  obtain ⟨hn_14, hr_14⟩ := and_e hr_13
  obtain ⟨hn_15, hr_15⟩ := and_e hr_14
  obtain ⟨hn_16, hr_16⟩ := and_e hr_15
  obtain ⟨hn_17, hr_17⟩ := and_e hr_16
  obtain ⟨hn_18, hr_18⟩ := and_e hr_17
  obtain ⟨hn_19, hr_19⟩ := and_e hr_18
  obtain ⟨hn_20, hr_20⟩ := and_e hr_19
  obtain ⟨a_EAVT, ev_EAVT⟩ := exa_v hn_0
  have E_EAVT : Exa s s.heap a_EAVT "com/example/fir/fir/core/Index" := Exa.start ev_EAVT hn_0
  have S_EAVT : Sta s s.heap "com/example/fir/fir/core/Index" "EAVT" "Lcom/example/fir/fir/core/Index;" (.ref a_EAVT) := Sta.start ev_EAVT (Or.inr ⟨(hw _ (List.mem_of_getElem? (i := 6) rfl)), (hw _ (List.mem_of_getElem? (i := 7) rfl))⟩)
  obtain ⟨a_INSTANT, ev_INSTANT⟩ := exa_v hn_1
  have E_INSTANT : Exa s s.heap a_INSTANT "com/example/fir/fir/core/ValueType$4" := Exa.start ev_INSTANT hn_1
  have S_INSTANT : Sta s s.heap "com/example/fir/fir/core/ValueType" "INSTANT" "Lcom/example/fir/fir/core/ValueType;" (.ref a_INSTANT) := Sta.start ev_INSTANT (Or.inr ⟨(hw _ (List.mem_of_getElem? (i := 12) rfl)), (hw _ (List.mem_of_getElem? (i := 13) rfl))⟩)
  obtain ⟨a_AVET, ev_AVET⟩ := exa_v hn_3
  have E_AVET : Exa s s.heap a_AVET "com/example/fir/fir/core/Index" := Exa.start ev_AVET hn_3
  have S_AVET : Sta s s.heap "com/example/fir/fir/core/Index" "AVET" "Lcom/example/fir/fir/core/Index;" (.ref a_AVET) := Sta.start ev_AVET (Or.inr ⟨(hw _ (List.mem_of_getElem? (i := 6) rfl)), (hw _ (List.mem_of_getElem? (i := 22) rfl))⟩)
  obtain ⟨a_LONG, ev_LONG⟩ := exa_v hn_4
  have E_LONG : Exa s s.heap a_LONG "com/example/fir/fir/core/ValueType$2" := Exa.start ev_LONG hn_4
  have S_LONG : Sta s s.heap "com/example/fir/fir/core/ValueType" "LONG" "Lcom/example/fir/fir/core/ValueType;" (.ref a_LONG) := Sta.start ev_LONG (Or.inr ⟨(hw _ (List.mem_of_getElem? (i := 12) rfl)), (hw _ (List.mem_of_getElem? (i := 24) rfl))⟩)
  obtain ⟨a_BOOLEAN, ev_BOOLEAN⟩ := exa_v hn_6
  have E_BOOLEAN : Exa s s.heap a_BOOLEAN "com/example/fir/fir/core/ValueType$6" := Exa.start ev_BOOLEAN hn_6
  have S_BOOLEAN : Sta s s.heap "com/example/fir/fir/core/ValueType" "BOOLEAN" "Lcom/example/fir/fir/core/ValueType;" (.ref a_BOOLEAN) := Sta.start ev_BOOLEAN (Or.inr ⟨(hw _ (List.mem_of_getElem? (i := 12) rfl)), (hw _ (List.mem_of_getElem? (i := 26) rfl))⟩)
  obtain ⟨a_STRING, ev_STRING⟩ := exa_v hn_7
  have E_STRING : Exa s s.heap a_STRING "com/example/fir/fir/core/ValueType$3" := Exa.start ev_STRING hn_7
  have S_STRING : Sta s s.heap "com/example/fir/fir/core/ValueType" "STRING" "Lcom/example/fir/fir/core/ValueType;" (.ref a_STRING) := Sta.start ev_STRING (Or.inr ⟨(hw _ (List.mem_of_getElem? (i := 12) rfl)), (hw _ (List.mem_of_getElem? (i := 28) rfl))⟩)
  obtain ⟨a_KEYWORD, ev_KEYWORD⟩ := exa_v hn_8
  have E_KEYWORD : Exa s s.heap a_KEYWORD "com/example/fir/fir/core/ValueType$1" := Exa.start ev_KEYWORD hn_8
  have S_KEYWORD : Sta s s.heap "com/example/fir/fir/core/ValueType" "KEYWORD" "Lcom/example/fir/fir/core/ValueType;" (.ref a_KEYWORD) := Sta.start ev_KEYWORD (Or.inr ⟨(hw _ (List.mem_of_getElem? (i := 12) rfl)), (hw _ (List.mem_of_getElem? (i := 30) rfl))⟩)
  obtain ⟨a_AEVT, ev_AEVT⟩ := exa_v hn_9
  have E_AEVT : Exa s s.heap a_AEVT "com/example/fir/fir/core/Index" := Exa.start ev_AEVT hn_9
  have S_AEVT : Sta s s.heap "com/example/fir/fir/core/Index" "AEVT" "Lcom/example/fir/fir/core/Index;" (.ref a_AEVT) := Sta.start ev_AEVT (Or.inr ⟨(hw _ (List.mem_of_getElem? (i := 6) rfl)), (hw _ (List.mem_of_getElem? (i := 32) rfl))⟩)
  obtain ⟨a_TUPLE, ev_TUPLE⟩ := exa_v hn_10
  have E_TUPLE : Exa s s.heap a_TUPLE "com/example/fir/fir/core/ValueType$14" := Exa.start ev_TUPLE hn_10
  have S_TUPLE : Sta s s.heap "com/example/fir/fir/core/ValueType" "TUPLE" "Lcom/example/fir/fir/core/ValueType;" (.ref a_TUPLE) := Sta.start ev_TUPLE (Or.inr ⟨(hw _ (List.mem_of_getElem? (i := 12) rfl)), (hw _ (List.mem_of_getElem? (i := 34) rfl))⟩)
  obtain ⟨a_SYMBOL, ev_SYMBOL⟩ := exa_v hn_12
  have E_SYMBOL : Exa s s.heap a_SYMBOL "com/example/fir/fir/core/ValueType$11" := Exa.start ev_SYMBOL hn_12
  have S_SYMBOL : Sta s s.heap "com/example/fir/fir/core/ValueType" "SYMBOL" "Lcom/example/fir/fir/core/ValueType;" (.ref a_SYMBOL) := Sta.start ev_SYMBOL (Or.inr ⟨(hw _ (List.mem_of_getElem? (i := 12) rfl)), (hw _ (List.mem_of_getElem? (i := 36) rfl))⟩)
  obtain ⟨a_VAET, ev_VAET⟩ := exa_v hn_13
  have E_VAET : Exa s s.heap a_VAET "com/example/fir/fir/core/Index" := Exa.start ev_VAET hn_13
  have S_VAET : Sta s s.heap "com/example/fir/fir/core/Index" "VAET" "Lcom/example/fir/fir/core/Index;" (.ref a_VAET) := Sta.start ev_VAET (Or.inr ⟨(hw _ (List.mem_of_getElem? (i := 6) rfl)), (hw _ (List.mem_of_getElem? (i := 38) rfl))⟩)
  obtain ⟨a_DOUBLE, ev_DOUBLE⟩ := exa_v hn_14
  have E_DOUBLE : Exa s s.heap a_DOUBLE "com/example/fir/fir/core/ValueType$9" := Exa.start ev_DOUBLE hn_14
  have S_DOUBLE : Sta s s.heap "com/example/fir/fir/core/ValueType" "DOUBLE" "Lcom/example/fir/fir/core/ValueType;" (.ref a_DOUBLE) := Sta.start ev_DOUBLE (Or.inr ⟨(hw _ (List.mem_of_getElem? (i := 12) rfl)), (hw _ (List.mem_of_getElem? (i := 40) rfl))⟩)
  obtain ⟨a_BIGINT, ev_BIGINT⟩ := exa_v hn_17
  have E_BIGINT : Exa s s.heap a_BIGINT "com/example/fir/fir/core/ValueType$8" := Exa.start ev_BIGINT hn_17
  have S_BIGINT : Sta s s.heap "com/example/fir/fir/core/ValueType" "BIGINT" "Lcom/example/fir/fir/core/ValueType;" (.ref a_BIGINT) := Sta.start ev_BIGINT (Or.inr ⟨(hw _ (List.mem_of_getElem? (i := 12) rfl)), (hw _ (List.mem_of_getElem? (i := 44) rfl))⟩)
  obtain ⟨a_BIGDEC, ev_BIGDEC⟩ := exa_v hn_18
  have E_BIGDEC : Exa s s.heap a_BIGDEC "com/example/fir/fir/core/ValueType$7" := Exa.start ev_BIGDEC hn_18
  have S_BIGDEC : Sta s s.heap "com/example/fir/fir/core/ValueType" "BIGDEC" "Lcom/example/fir/fir/core/ValueType;" (.ref a_BIGDEC) := Sta.start ev_BIGDEC (Or.inr ⟨(hw _ (List.mem_of_getElem? (i := 12) rfl)), (hw _ (List.mem_of_getElem? (i := 46) rfl))⟩)
  obtain ⟨a_UUID, ev_UUID⟩ := exa_v hn_19
  have E_UUID : Exa s s.heap a_UUID "com/example/fir/fir/core/ValueType$12" := Exa.start ev_UUID hn_19
  have S_UUID : Sta s s.heap "com/example/fir/fir/core/ValueType" "UUID" "Lcom/example/fir/fir/core/ValueType;" (.ref a_UUID) := Sta.start ev_UUID (Or.inr ⟨(hw _ (List.mem_of_getElem? (i := 12) rfl)), (hw _ (List.mem_of_getElem? (i := 48) rfl))⟩)
  obtain ⟨a_FLOAT, ev_FLOAT⟩ := exa_v hn_20
  have E_FLOAT : Exa s s.heap a_FLOAT "com/example/fir/fir/core/ValueType$10" := Exa.start ev_FLOAT hn_20
  have S_FLOAT : Sta s s.heap "com/example/fir/fir/core/ValueType" "FLOAT" "Lcom/example/fir/fir/core/ValueType;" (.ref a_FLOAT) := Sta.start ev_FLOAT (Or.inr ⟨(hw _ (List.mem_of_getElem? (i := 12) rfl)), (hw _ (List.mem_of_getElem? (i := 50) rfl))⟩)
  obtain ⟨a_URI, ev_URI⟩ := exa_v hr_20
  have E_URI : Exa s s.heap a_URI "com/example/fir/fir/core/ValueType$13" := Exa.start ev_URI hr_20
  have S_URI : Sta s s.heap "com/example/fir/fir/core/ValueType" "URI" "Lcom/example/fir/fir/core/ValueType;" (.ref a_URI) := Sta.start ev_URI (Or.inr ⟨(hw _ (List.mem_of_getElem? (i := 12) rfl)), (hw _ (List.mem_of_getElem? (i := 52) rfl))⟩)
  have F_EAVT_only : Fld s s.heap a_EAVT "com/example/fir/fir/core/Index" "only" "Lcom/example/fir/fir/core/ValueType;" .null := Fld.start ((fld_at ev_EAVT).symm.trans (null_v hn_2))
  have F_AVET_only : Fld s s.heap a_AVET "com/example/fir/fir/core/Index" "only" "Lcom/example/fir/fir/core/ValueType;" .null := Fld.start ((fld_at ev_AVET).symm.trans (null_v hn_5))
  have F_AEVT_only : Fld s s.heap a_AEVT "com/example/fir/fir/core/Index" "only" "Lcom/example/fir/fir/core/ValueType;" .null := Fld.start ((fld_at ev_AEVT).symm.trans (null_v hn_11))
  obtain ⟨a_REF, ev_only⟩ := exa_v hn_15
  have E_REF := Exa.start ev_only hn_15
  have ev_REF := own_eqR ev_only rfl hn_16
  have S_REF : Sta s s.heap "com/example/fir/fir/core/ValueType" "REF" "Lcom/example/fir/fir/core/ValueType;" (.ref a_REF) := Sta.start ev_REF (Or.inr ⟨(hw _ (List.mem_of_getElem? (i := 12) rfl)), (hw _ (List.mem_of_getElem? (i := 42) rfl))⟩)
  have F_VAET_only : Fld s s.heap a_VAET "com/example/fir/fir/core/Index" "only" "Lcom/example/fir/fir/core/ValueType;" (.ref a_REF) := Fld.start ((fld_at ev_VAET).symm.trans ev_only)
  have nq0 : a_REF ≠ a_KEYWORD := ne_exa E_REF E_KEYWORD (by decide)
  have nq1 : a_REF ≠ a_LONG := ne_exa E_REF E_LONG (by decide)
  have nq2 : a_REF ≠ a_STRING := ne_exa E_REF E_STRING (by decide)
  have nq3 : a_REF ≠ a_INSTANT := ne_exa E_REF E_INSTANT (by decide)
  have nq5 : a_REF ≠ a_BOOLEAN := ne_exa E_REF E_BOOLEAN (by decide)
  have nq6 : a_REF ≠ a_BIGDEC := ne_exa E_REF E_BIGDEC (by decide)
  have nq7 : a_REF ≠ a_BIGINT := ne_exa E_REF E_BIGINT (by decide)
  have nq8 : a_REF ≠ a_DOUBLE := ne_exa E_REF E_DOUBLE (by decide)
  have nq9 : a_REF ≠ a_FLOAT := ne_exa E_REF E_FLOAT (by decide)
  have nq10 : a_REF ≠ a_SYMBOL := ne_exa E_REF E_SYMBOL (by decide)
  have nq11 : a_REF ≠ a_UUID := ne_exa E_REF E_UUID (by decide)
  have nq12 : a_REF ≠ a_URI := ne_exa E_REF E_URI (by decide)
  have nq13 : a_REF ≠ a_TUPLE := ne_exa E_REF E_TUPLE (by decide)
  obtain ⟨n, o, h1, h2, h3, _, L, rfl, ⟨rfl, N⟩, hq⟩ := rm0 l s _ hw tables_1 i0 i1 a_EAVT a_AEVT a_AVET a_VAET a_KEYWORD a_LONG a_STRING a_INSTANT a_REF a_BOOLEAN a_BIGDEC a_BIGINT a_DOUBLE a_FLOAT a_SYMBOL a_UUID a_URI a_TUPLE s.heap s.heap.size (Nat.le_refl _) S_EAVT S_AEVT S_AVET S_VAET S_KEYWORD S_LONG S_STRING S_INSTANT S_REF S_BOOLEAN S_BIGDEC S_BIGINT S_DOUBLE S_FLOAT S_SYMBOL S_UUID S_URI S_TUPLE E_EAVT E_AEVT E_AVET E_VAET F_EAVT_only F_AEVT_only F_AVET_only F_VAET_only nq0 nq1 nq2 nq3 nq5 nq6 nq7 nq8 nq9 nq10 nq11 nq12 nq13 p e ha hc hk s m _ below hf ((Spec.applies_iff_loose hf).mp happ).1 ⟨rfl, State.Warmed39.refl s, rfl⟩ trivial
  refine ⟨n, _, h1, h2, h3, hpost _ _ _ _ _ _ ⟨Cond.after_iff.mpr rfl, Cond.after_iff.mpr (eq_i res_at (Term.int_eval (1)) rfl), trivial⟩ ⟨hq.1, hq.2.1, (hq.2.2.sift fun y hy => Or.inr (N y hy)).mono (by decide) (by decide)⟩⟩
theorem main_1_1 : Claimed_1_1 := comes_1 fun _ _ _ _ _ _ h hF => ⟨h.1, hF⟩
theorem main_1_2 : Claimed_1_2 := comes_1 fun _ _ _ _ _ _ h hF => ⟨h.2.1, hF⟩
end Jvm.Pilot.@@N@@
namespace Jvm.Pilot.@@N@@
open Jvm Jvm.ClassFile Sem Op Lib Jvm.Free Jvm.Stand Jvm.Pilot.@@N@@.Jvm.D
/-! MADE BY PROGRAM (witnessworld.py) out of the Statement's table words and the real class files: 28 classes; the members and pool entries that the words name. The judged class is class 1, her method 1. -/
namespace start1
open Jvm.ClassFile
def u (s : String) : CpInfo := .utf8 (stringToUtf16 s)
/-- a pool by its gaps: so many unusable entries, then the entry; so many at the end -/
def gap : Nat → List CpInfo → List CpInfo
  | 0, r => r
  | n + 1, r => .unusable :: gap n r
def poolList (es : List (Nat × CpInfo)) (last : Nat) : List CpInfo := es.foldr (fun e r => gap e.1 (e.2 :: r)) (gap last [])
def pool (es : List (Nat × CpInfo)) (last : Nat) : Array CpInfo := ⟨poolList es last⟩
def fileOf (pool : Array CpInfo) (this : Nat) (attrs : Array Attribute := #[]) (ms : Array MethodInfo := #[]) (fl : Nat := 33) (sup : Nat := 0) (ifs : Array Nat := #[]) (fds : Array FieldInfo := #[]) : ClassFile where
  minorVersion := 0
  majorVersion := 65
  constantPool := pool
  accessFlags := fl
  thisClass := this
  superClass := sup
  interfaces := ifs
  fields := fds
  methods := ms
  attributes := attrs
def plain (name : String) (sup : Option ClassId) : Class where
  name := name
  kind := .ordinary
  loader := none
  accessFlags := 33
  super := sup
  interfaces := #[]
  cf := none
  fields := #[]
  methods := #[]
  instanceTypes := #[]
  staticTypes := #[]
  resolved := #[]
  callSites := []
  init := .initialized
  statics := none
  mirror := none

def pool0 : Array CpInfo := pool [(5, u "<init>"), (0, u "()V"), (1, .class_ 10), (1, u "java/lang/Object")] 113

def k0m0 : Method := { name := "<init>", desc := "()V", sig := { parameters := [], returnType := none }, accessFlags := 1, code := none }
/-- java/lang/Object -/
def k0 : Class := { plain "java/lang/Object" none with
  accessFlags := 33
  interfaces := #[]
  cf := some (fileOf pool0 8 #[] #[{ accessFlags := 1, nameIndex := 5, descriptorIndex := 6, attributes := #[] }] 33 0 #[] #[])
  fields := #[]
  methods := #[k0m0]
  instanceTypes := #[]
  staticTypes := #[]
  resolved := Array.replicate 124 none
  statics := none }

def pool1 : Array CpInfo := pool [(2, .class_ 4), (1, u "java/lang/Object"), (0, u "<init>"), (0, u "()V"), (0, .integer 2147483647), (0, .methodref 9 10), (0, .class_ 11), (0, .nameAndType 12 13), (0, u "com/example/fir/fir/core/IndexHoldsPinLaw"), (0, u "index"), (0, u "(I)Lcom/example/fir/fir/core/Index;"), (0, .methodref 9 15), (0, .nameAndType 16 17), (0, u "type"), (0, u "(I)Lcom/example/fir/fir/core/ValueType;"), (0, .methodref 19 20), (0, .class_ 21), (0, .nameAndType 22 23), (0, u "com/example/fir/fir/core/Index"), (0, u "holds"), (0, u "(Lcom/example/fir/fir/core/ValueType;)Z"), (0, .fieldref 19 25), (0, .nameAndType 26 27), (0, u "EAVT"), (0, u "Lcom/example/fir/fir/core/Index;"), (0, .fieldref 19 29), (0, .nameAndType 30 27), (0, u "AEVT"), (0, .fieldref 19 32), (0, .nameAndType 33 27), (0, u "AVET"), (0, .fieldref 19 35), (0, .nameAndType 36 27), (0, u "VAET"), (0, .fieldref 38 39), (0, .class_ 40), (0, .nameAndType 41 42), (0, u "com/example/fir/fir/core/ValueType"), (0, u "KEYWORD"), (0, u "Lcom/example/fir/fir/core/ValueType;"), (0, .fieldref 38 44), (0, .nameAndType 45 42), (0, u "LONG"), (0, .fieldref 38 47), (0, .nameAndType 48 42), (0, u "STRING"), (0, .fieldref 38 50), (0, .nameAndType 51 42), (0, u "INSTANT"), (0, .fieldref 38 53), (0, .nameAndType 54 42), (0, u "REF"), (0, .fieldref 38 56), (0, .nameAndType 57 42), (0, u "BOOLEAN"), (0, .fieldref 38 59), (0, .nameAndType 60 42), (0, u "BIGDEC"), (0, .fieldref 38 62), (0, .nameAndType 63 42), (0, u "BIGINT"), (0, .fieldref 38 65), (0, .nameAndType 66 42), (0, u "DOUBLE"), (0, .fieldref 38 68), (0, .nameAndType 69 42), (0, u "FLOAT"), (0, .fieldref 38 71), (0, .nameAndType 72 42), (0, u "SYMBOL"), (0, .fieldref 38 74), (0, .nameAndType 75 42), (0, u "UUID"), (0, .fieldref 38 77), (0, .nameAndType 78 42), (0, u "URI"), (0, .fieldref 38 80), (0, .nameAndType 81 42), (0, u "TUPLE"), (2, u "law"), (0, u "(II)Z")] 3

def k1m0 : Method := { name := "<init>", desc := "()V", sig := { parameters := [], returnType := none }, accessFlags := 1, code := none }
def k1c1 : Code := { maxStack := 2, maxLocals := 7, code := code, exceptionTable := #[], attributes := #[] }
def k1m1 : Method := { name := "law", desc := "(II)Z", sig := { parameters := [.int, .int], returnType := some .boolean }, accessFlags := 9, code := some k1c1 }
def k1c2 : Code := { maxStack := 2, maxLocals := 1, code := method_3_code, exceptionTable := #[], attributes := #[] }
def k1m2 : Method := { name := "index", desc := "(I)Lcom/example/fir/fir/core/Index;", sig := { parameters := [.int], returnType := some (.object "com/example/fir/fir/core/Index") }, accessFlags := 10, code := some k1c2 }
def k1c3 : Code := { maxStack := 2, maxLocals := 1, code := method_4_code, exceptionTable := #[], attributes := #[] }
def k1m3 : Method := { name := "type", desc := "(I)Lcom/example/fir/fir/core/ValueType;", sig := { parameters := [.int], returnType := some (.object "com/example/fir/fir/core/ValueType") }, accessFlags := 10, code := some k1c3 }
/-- com/example/fir/fir/core/IndexHoldsPinLaw -/
def k1 : Class := { plain "com/example/fir/fir/core/IndexHoldsPinLaw" (some 0) with
  accessFlags := 49
  interfaces := #[]
  cf := some (fileOf pool1 9 #[] #[{ accessFlags := 1, nameIndex := 5, descriptorIndex := 6, attributes := #[] }, { accessFlags := 9, nameIndex := 84, descriptorIndex := 85, attributes := #[] }, { accessFlags := 10, nameIndex := 12, descriptorIndex := 13, attributes := #[] }, { accessFlags := 10, nameIndex := 16, descriptorIndex := 17, attributes := #[] }] 49 2 #[] #[])
  fields := #[]
  methods := #[k1m0, k1m1, k1m2, k1m3]
  instanceTypes := #[]
  staticTypes := #[]
  resolved := Array.replicate 89 none
  statics := none }

def pool2 : Array CpInfo := pool [(1, .class_ 2), (0, u "java/lang/constant/Constable"), (0, .class_ 4), (0, u "java/lang/Object")] 6

/-- java/lang/constant/Constable -/
def k2 : Class := { plain "java/lang/constant/Constable" (some 0) with
  accessFlags := 1537
  interfaces := #[]
  cf := some (fileOf pool2 1 #[] #[] 1537 3 #[] #[])
  fields := #[]
  methods := #[]
  instanceTypes := #[]
  staticTypes := #[]
  resolved := Array.replicate 11 none
  statics := none }

def pool3 : Array CpInfo := pool [(1, .class_ 2), (0, u "java/lang/Comparable"), (0, .class_ 4), (0, u "java/lang/Object")] 7

/-- java/lang/Comparable -/
def k3 : Class := { plain "java/lang/Comparable" (some 0) with
  accessFlags := 1537
  interfaces := #[]
  cf := some (fileOf pool3 1 #[] #[] 1537 3 #[] #[])
  fields := #[]
  methods := #[]
  instanceTypes := #[]
  staticTypes := #[]
  resolved := Array.replicate 12 none
  statics := none }

def pool4 : Array CpInfo := pool [(1, .class_ 2), (0, u "java/io/Serializable"), (0, .class_ 4), (0, u "java/lang/Object")] 2

/-- java/io/Serializable -/
def k4 : Class := { plain "java/io/Serializable" (some 0) with
  accessFlags := 1537
  interfaces := #[]
  cf := some (fileOf pool4 1 #[] #[] 1537 3 #[] #[])
  fields := #[]
  methods := #[]
  instanceTypes := #[]
  staticTypes := #[]
  resolved := Array.replicate 7 none
  statics := none }

def pool5 : Array CpInfo := pool [(2, .class_ 4), (1, u "java/lang/Enum"), (0, u "name"), (0, u "Ljava/lang/String;"), (2, u "ordinal"), (0, u "I"), (1, .class_ 14), (1, u "java/lang/Object"), (4, u "hash"), (86, .class_ 108), (1, u "java/lang/Enum$EnumDesc"), (2, .class_ 112), (0, u "java/lang/constant/Constable"), (0, .class_ 114), (0, u "java/lang/Comparable"), (0, .class_ 116), (0, u "java/io/Serializable")] 87

/-- java/lang/Enum -/
def k5 : Class := { plain "java/lang/Enum" (some 0) with
  accessFlags := 1057
  interfaces := #[2, 3, 4]
  cf := some (fileOf pool5 2 #[.nestMembers #[106]] #[] 1057 12 #[111, 113, 115] #[{ accessFlags := 18, nameIndex := 5, descriptorIndex := 6, attributes := #[] }, { accessFlags := 18, nameIndex := 9, descriptorIndex := 10, attributes := #[] }, { accessFlags := 2, nameIndex := 19, descriptorIndex := 10, attributes := #[] }])
  fields := #[{ name := "name", type := (.object "java/lang/String"), accessFlags := 18, slot := 0, constantValue := 0 }, { name := "ordinal", type := .int, accessFlags := 18, slot := 1, constantValue := 0 }, { name := "hash", type := .int, accessFlags := 2, slot := 2, constantValue := 0 }]
  methods := #[]
  instanceTypes := #[(.object "java/lang/String"), .int, .int]
  staticTypes := #[]
  resolved := Array.replicate 204 none
  statics := none }

def pool6 : Array CpInfo := pool [(1, .class_ 2), (0, u "com/example/fir/fir/core/Index"), (2, u "EAVT"), (0, u "Lcom/example/fir/fir/core/Index;"), (2, u "AEVT"), (2, u "AVET"), (2, u "VAET"), (2, u "$VALUES"), (0, u "[Lcom/example/fir/fir/core/Index;"), (6, .class_ 28), (1, u "java/lang/Enum"), (8, u "prefix"), (0, u "I"), (2, u "historyPrefix"), (0, .fieldref 1 43), (0, .nameAndType 44 45), (0, u "only"), (0, u "Lcom/example/fir/fir/core/ValueType;"), (8, u "parts"), (0, u "Ljava/util/List;"), (29, u "ADDED"), (0, u "[B"), (2, u "RETRACTED"), (19, .class_ 110), (0, u "com/example/fir/fir/core/Index$Part"), (104, u "holds"), (0, u "(Lcom/example/fir/fir/core/ValueType;)Z")] 24

def k6c0 : Code := { maxStack := 2, maxLocals := 2, code := prog_25_method_5_code, exceptionTable := #[], attributes := #[] }
def k6m0 : Method := { name := "holds", desc := "(Lcom/example/fir/fir/core/ValueType;)Z", sig := { parameters := [(.object "com/example/fir/fir/core/ValueType")], returnType := some .boolean }, accessFlags := 0, code := some k6c0 }
/-- com/example/fir/fir/core/Index -/
def k6 : Class := { plain "com/example/fir/fir/core/Index" (some 5) with
  accessFlags := 16433
  interfaces := #[]
  cf := some (fileOf pool6 1 #[.nestMembers #[109]] #[{ accessFlags := 0, nameIndex := 215, descriptorIndex := 216, attributes := #[] }] 16433 26 #[] #[{ accessFlags := 16409, nameIndex := 5, descriptorIndex := 6, attributes := #[] }, { accessFlags := 16409, nameIndex := 9, descriptorIndex := 6, attributes := #[] }, { accessFlags := 16409, nameIndex := 12, descriptorIndex := 6, attributes := #[] }, { accessFlags := 16409, nameIndex := 15, descriptorIndex := 6, attributes := #[] }, { accessFlags := 26, nameIndex := 85, descriptorIndex := 86, attributes := #[] }, { accessFlags := 26, nameIndex := 89, descriptorIndex := 86, attributes := #[] }, { accessFlags := 18, nameIndex := 37, descriptorIndex := 38, attributes := #[] }, { accessFlags := 18, nameIndex := 41, descriptorIndex := 38, attributes := #[] }, { accessFlags := 18, nameIndex := 44, descriptorIndex := 45, attributes := #[] }, { accessFlags := 18, nameIndex := 54, descriptorIndex := 55, attributes := #[] }, { accessFlags := 4122, nameIndex := 18, descriptorIndex := 19, attributes := #[] }])
  fields := #[{ name := "EAVT", type := (.object "com/example/fir/fir/core/Index"), accessFlags := 16409, slot := 0, constantValue := 0 }, { name := "AEVT", type := (.object "com/example/fir/fir/core/Index"), accessFlags := 16409, slot := 1, constantValue := 0 }, { name := "AVET", type := (.object "com/example/fir/fir/core/Index"), accessFlags := 16409, slot := 2, constantValue := 0 }, { name := "VAET", type := (.object "com/example/fir/fir/core/Index"), accessFlags := 16409, slot := 3, constantValue := 0 }, { name := "ADDED", type := (.array .byte), accessFlags := 26, slot := 4, constantValue := 0 }, { name := "RETRACTED", type := (.array .byte), accessFlags := 26, slot := 5, constantValue := 0 }, { name := "prefix", type := .int, accessFlags := 18, slot := 3, constantValue := 0 }, { name := "historyPrefix", type := .int, accessFlags := 18, slot := 4, constantValue := 0 }, { name := "only", type := (.object "com/example/fir/fir/core/ValueType"), accessFlags := 18, slot := 5, constantValue := 0 }, { name := "parts", type := (.object "java/util/List"), accessFlags := 18, slot := 6, constantValue := 0 }, { name := "$VALUES", type := (.array (.object "com/example/fir/fir/core/Index")), accessFlags := 4122, slot := 6, constantValue := 0 }]
  methods := #[k6m0]
  instanceTypes := #[(.object "java/lang/String"), .int, .int, .int, .int, (.object "com/example/fir/fir/core/ValueType"), (.object "java/util/List")]
  staticTypes := #[(.object "com/example/fir/fir/core/Index"), (.object "com/example/fir/fir/core/Index"), (.object "com/example/fir/fir/core/Index"), (.object "com/example/fir/fir/core/Index"), (.array .byte), (.array .byte), (.array (.object "com/example/fir/fir/core/Index"))]
  resolved := Array.replicate 241 none
  statics := some 0 }

def pool7 : Array CpInfo := pool [(2, .class_ 4), (1, u "com/example/fir/fir/core/Enumerated"), (33, .class_ 39), (0, u "java/lang/Object")] 14

/-- com/example/fir/fir/core/Enumerated -/
def k7 : Class := { plain "com/example/fir/fir/core/Enumerated" (some 0) with
  accessFlags := 1536
  interfaces := #[]
  cf := some (fileOf pool7 2 #[] #[] 1536 38 #[] #[])
  fields := #[]
  methods := #[]
  instanceTypes := #[]
  staticTypes := #[]
  resolved := Array.replicate 54 none
  statics := none }

def pool8 : Array CpInfo := pool [(1, .class_ 2), (0, u "com/example/fir/fir/core/ValueType"), (2, u "KEYWORD"), (0, u "Lcom/example/fir/fir/core/ValueType;"), (2, u "LONG"), (2, u "STRING"), (2, u "INSTANT"), (2, u "REF"), (2, u "BOOLEAN"), (2, u "BIGDEC"), (2, u "BIGINT"), (2, u "DOUBLE"), (2, u "FLOAT"), (2, u "SYMBOL"), (2, u "UUID"), (2, u "URI"), (2, u "TUPLE"), (2, u "$VALUES"), (0, u "[Lcom/example/fir/fir/core/ValueType;"), (6, .class_ 58), (1, u "java/lang/Enum"), (16, u "ident"), (0, u "Lcom/example/fir/fir/edn/Keyword;"), (2, u "code"), (0, u "I"), (2, u "holds"), (0, u "Ljava/lang/Class;"), (5, .class_ 92), (1, u "com/example/fir/fir/core/Enumerated"), (34, u "BY_CODE"), (29, u "DECLARED"), (197, .class_ 356), (0, u "com/example/fir/fir/core/ValueType$1"), (6, .class_ 364), (0, u "com/example/fir/fir/core/ValueType$2"), (4, .class_ 370), (0, u "com/example/fir/fir/core/ValueType$3"), (4, .class_ 376), (0, u "com/example/fir/fir/core/ValueType$4"), (6, .class_ 384), (0, u "com/example/fir/fir/core/ValueType$5"), (4, .class_ 390), (0, u "com/example/fir/fir/core/ValueType$6"), (6, .class_ 398), (0, u "com/example/fir/fir/core/ValueType$7"), (6, .class_ 406), (0, u "com/example/fir/fir/core/ValueType$8"), (6, .class_ 414), (0, u "com/example/fir/fir/core/ValueType$9"), (4, .class_ 420), (0, u "com/example/fir/fir/core/ValueType$10"), (4, .class_ 426), (0, u "com/example/fir/fir/core/ValueType$11"), (6, .class_ 434), (0, u "com/example/fir/fir/core/ValueType$12"), (6, .class_ 442), (0, u "com/example/fir/fir/core/ValueType$13"), (4, .class_ 448), (0, u "com/example/fir/fir/core/ValueType$14"), (12, u "SLOT_TYPES"), (0, u "Ljava/util/List;"), (0, u "MAX_STRING_LENGTH"), (2, u "MIN_TUPLE_SIZE"), (1, u "MAX_TUPLE_SIZE"), (1, u "MAX_TUPLE_STRING_LENGTH"), (1, u "MAX_DECIMAL_PRECISION"), (1, u "MAX_BIGINT_BITS")] 57

/-- com/example/fir/fir/core/ValueType -/
def k8 : Class := { plain "com/example/fir/fir/core/ValueType" (some 5) with
  accessFlags := 17441
  interfaces := #[7]
  cf := some (fileOf pool8 1 #[.nestMembers #[447, 441, 433, 425, 419, 413, 405, 397, 389, 383, 375, 369, 363, 355]] #[] 17441 56 #[90] #[{ accessFlags := 16409, nameIndex := 5, descriptorIndex := 6, attributes := #[] }, { accessFlags := 16409, nameIndex := 9, descriptorIndex := 6, attributes := #[] }, { accessFlags := 16409, nameIndex := 12, descriptorIndex := 6, attributes := #[] }, { accessFlags := 16409, nameIndex := 15, descriptorIndex := 6, attributes := #[] }, { accessFlags := 16409, nameIndex := 18, descriptorIndex := 6, attributes := #[] }, { accessFlags := 16409, nameIndex := 21, descriptorIndex := 6, attributes := #[] }, { accessFlags := 16409, nameIndex := 24, descriptorIndex := 6, attributes := #[] }, { accessFlags := 16409, nameIndex := 27, descriptorIndex := 6, attributes := #[] }, { accessFlags := 16409, nameIndex := 30, descriptorIndex := 6, attributes := #[] }, { accessFlags := 16409, nameIndex := 33, descriptorIndex := 6, attributes := #[] }, { accessFlags := 16409, nameIndex := 36, descriptorIndex := 6, attributes := #[] }, { accessFlags := 16409, nameIndex := 39, descriptorIndex := 6, attributes := #[] }, { accessFlags := 16409, nameIndex := 42, descriptorIndex := 6, attributes := #[] }, { accessFlags := 16409, nameIndex := 45, descriptorIndex := 6, attributes := #[] }, { accessFlags := 24, nameIndex := 463, descriptorIndex := 80, attributes := #[] }, { accessFlags := 24, nameIndex := 466, descriptorIndex := 80, attributes := #[] }, { accessFlags := 24, nameIndex := 468, descriptorIndex := 80, attributes := #[] }, { accessFlags := 24, nameIndex := 470, descriptorIndex := 80, attributes := #[] }, { accessFlags := 24, nameIndex := 472, descriptorIndex := 80, attributes := #[] }, { accessFlags := 24, nameIndex := 474, descriptorIndex := 80, attributes := #[] }, { accessFlags := 24, nameIndex := 461, descriptorIndex := 462, attributes := #[] }, { accessFlags := 26, nameIndex := 157, descriptorIndex := 49, attributes := #[] }, { accessFlags := 26, nameIndex := 127, descriptorIndex := 49, attributes := #[] }, { accessFlags := 18, nameIndex := 75, descriptorIndex := 76, attributes := #[] }, { accessFlags := 18, nameIndex := 79, descriptorIndex := 80, attributes := #[] }, { accessFlags := 18, nameIndex := 83, descriptorIndex := 84, attributes := #[] }, { accessFlags := 4122, nameIndex := 48, descriptorIndex := 49, attributes := #[] }])
  fields := #[{ name := "KEYWORD", type := (.object "com/example/fir/fir/core/ValueType"), accessFlags := 16409, slot := 0, constantValue := 0 }, { name := "LONG", type := (.object "com/example/fir/fir/core/ValueType"), accessFlags := 16409, slot := 1, constantValue := 0 }, { name := "STRING", type := (.object "com/example/fir/fir/core/ValueType"), accessFlags := 16409, slot := 2, constantValue := 0 }, { name := "INSTANT", type := (.object "com/example/fir/fir/core/ValueType"), accessFlags := 16409, slot := 3, constantValue := 0 }, { name := "REF", type := (.object "com/example/fir/fir/core/ValueType"), accessFlags := 16409, slot := 4, constantValue := 0 }, { name := "BOOLEAN", type := (.object "com/example/fir/fir/core/ValueType"), accessFlags := 16409, slot := 5, constantValue := 0 }, { name := "BIGDEC", type := (.object "com/example/fir/fir/core/ValueType"), accessFlags := 16409, slot := 6, constantValue := 0 }, { name := "BIGINT", type := (.object "com/example/fir/fir/core/ValueType"), accessFlags := 16409, slot := 7, constantValue := 0 }, { name := "DOUBLE", type := (.object "com/example/fir/fir/core/ValueType"), accessFlags := 16409, slot := 8, constantValue := 0 }, { name := "FLOAT", type := (.object "com/example/fir/fir/core/ValueType"), accessFlags := 16409, slot := 9, constantValue := 0 }, { name := "SYMBOL", type := (.object "com/example/fir/fir/core/ValueType"), accessFlags := 16409, slot := 10, constantValue := 0 }, { name := "UUID", type := (.object "com/example/fir/fir/core/ValueType"), accessFlags := 16409, slot := 11, constantValue := 0 }, { name := "URI", type := (.object "com/example/fir/fir/core/ValueType"), accessFlags := 16409, slot := 12, constantValue := 0 }, { name := "TUPLE", type := (.object "com/example/fir/fir/core/ValueType"), accessFlags := 16409, slot := 13, constantValue := 0 }, { name := "MAX_STRING_LENGTH", type := .int, accessFlags := 24, slot := 14, constantValue := 0 }, { name := "MIN_TUPLE_SIZE", type := .int, accessFlags := 24, slot := 15, constantValue := 0 }, { name := "MAX_TUPLE_SIZE", type := .int, accessFlags := 24, slot := 16, constantValue := 0 }, { name := "MAX_TUPLE_STRING_LENGTH", type := .int, accessFlags := 24, slot := 17, constantValue := 0 }, { name := "MAX_DECIMAL_PRECISION", type := .int, accessFlags := 24, slot := 18, constantValue := 0 }, { name := "MAX_BIGINT_BITS", type := .int, accessFlags := 24, slot := 19, constantValue := 0 }, { name := "SLOT_TYPES", type := (.object "java/util/List"), accessFlags := 24, slot := 20, constantValue := 0 }, { name := "DECLARED", type := (.array (.object "com/example/fir/fir/core/ValueType")), accessFlags := 26, slot := 21, constantValue := 0 }, { name := "BY_CODE", type := (.array (.object "com/example/fir/fir/core/ValueType")), accessFlags := 26, slot := 22, constantValue := 0 }, { name := "ident", type := (.object "com/example/fir/fir/edn/Keyword"), accessFlags := 18, slot := 3, constantValue := 0 }, { name := "code", type := .int, accessFlags := 18, slot := 4, constantValue := 0 }, { name := "holds", type := (.object "java/lang/Class"), accessFlags := 18, slot := 5, constantValue := 0 }, { name := "$VALUES", type := (.array (.object "com/example/fir/fir/core/ValueType")), accessFlags := 4122, slot := 23, constantValue := 0 }]
  methods := #[]
  instanceTypes := #[(.object "java/lang/String"), .int, .int, (.object "com/example/fir/fir/edn/Keyword"), .int, (.object "java/lang/Class")]
  staticTypes := #[(.object "com/example/fir/fir/core/ValueType"), (.object "com/example/fir/fir/core/ValueType"), (.object "com/example/fir/fir/core/ValueType"), (.object "com/example/fir/fir/core/ValueType"), (.object "com/example/fir/fir/core/ValueType"), (.object "com/example/fir/fir/core/ValueType"), (.object "com/example/fir/fir/core/ValueType"), (.object "com/example/fir/fir/core/ValueType"), (.object "com/example/fir/fir/core/ValueType"), (.object "com/example/fir/fir/core/ValueType"), (.object "com/example/fir/fir/core/ValueType"), (.object "com/example/fir/fir/core/ValueType"), (.object "com/example/fir/fir/core/ValueType"), (.object "com/example/fir/fir/core/ValueType"), .int, .int, .int, .int, .int, .int, (.object "java/util/List"), (.array (.object "com/example/fir/fir/core/ValueType")), (.array (.object "com/example/fir/fir/core/ValueType")), (.array (.object "com/example/fir/fir/core/ValueType"))]
  resolved := Array.replicate 532 none
  statics := some 1 }

def pool9 : Array CpInfo := pool [(2, .class_ 4), (1, u "com/example/fir/fir/core/ValueType"), (23, .class_ 29), (0, u "com/example/fir/fir/core/ValueType$1")] 33

/-- com/example/fir/fir/core/ValueType$1 -/
def k9 : Class := { plain "com/example/fir/fir/core/ValueType$1" (some 8) with
  accessFlags := 16432
  interfaces := #[]
  cf := some (fileOf pool9 28 #[.nestHost 2] #[] 16432 2 #[] #[])
  fields := #[]
  methods := #[]
  instanceTypes := #[(.object "java/lang/String"), .int, .int, (.object "com/example/fir/fir/edn/Keyword"), .int, (.object "java/lang/Class")]
  staticTypes := #[]
  resolved := Array.replicate 63 none
  statics := none }

def pool10 : Array CpInfo := pool [(2, .class_ 4), (1, u "com/example/fir/fir/core/ValueType"), (3, .class_ 10), (1, u "com/example/fir/fir/core/ValueType$2")] 37

/-- com/example/fir/fir/core/ValueType$2 -/
def k10 : Class := { plain "com/example/fir/fir/core/ValueType$2" (some 8) with
  accessFlags := 16432
  interfaces := #[]
  cf := some (fileOf pool10 8 #[.nestHost 2] #[] 16432 2 #[] #[])
  fields := #[]
  methods := #[]
  instanceTypes := #[(.object "java/lang/String"), .int, .int, (.object "com/example/fir/fir/edn/Keyword"), .int, (.object "java/lang/Class")]
  staticTypes := #[]
  resolved := Array.replicate 48 none
  statics := none }

def pool11 : Array CpInfo := pool [(2, .class_ 4), (1, u "com/example/fir/fir/core/ValueType"), (28, .class_ 34), (0, u "com/example/fir/fir/core/ValueType$3")] 20

/-- com/example/fir/fir/core/ValueType$3 -/
def k11 : Class := { plain "com/example/fir/fir/core/ValueType$3" (some 8) with
  accessFlags := 16432
  interfaces := #[]
  cf := some (fileOf pool11 33 #[.nestHost 2] #[] 16432 2 #[] #[])
  fields := #[]
  methods := #[]
  instanceTypes := #[(.object "java/lang/String"), .int, .int, (.object "com/example/fir/fir/edn/Keyword"), .int, (.object "java/lang/Class")]
  staticTypes := #[]
  resolved := Array.replicate 55 none
  statics := none }

def pool12 : Array CpInfo := pool [(2, .class_ 4), (1, u "com/example/fir/fir/core/ValueType"), (44, .class_ 50), (0, u "com/example/fir/fir/core/ValueType$4")] 17

/-- com/example/fir/fir/core/ValueType$4 -/
def k12 : Class := { plain "com/example/fir/fir/core/ValueType$4" (some 8) with
  accessFlags := 16432
  interfaces := #[]
  cf := some (fileOf pool12 49 #[.nestHost 2] #[] 16432 2 #[] #[])
  fields := #[]
  methods := #[]
  instanceTypes := #[(.object "java/lang/String"), .int, .int, (.object "com/example/fir/fir/edn/Keyword"), .int, (.object "java/lang/Class")]
  staticTypes := #[]
  resolved := Array.replicate 68 none
  statics := none }

def pool13 : Array CpInfo := pool [(2, .class_ 4), (1, u "com/example/fir/fir/core/ValueType"), (23, .class_ 29), (0, u "com/example/fir/fir/core/ValueType$5")] 12

/-- com/example/fir/fir/core/ValueType$5 -/
def k13 : Class := { plain "com/example/fir/fir/core/ValueType$5" (some 8) with
  accessFlags := 16432
  interfaces := #[]
  cf := some (fileOf pool13 28 #[.nestHost 2] #[] 16432 2 #[] #[])
  fields := #[]
  methods := #[]
  instanceTypes := #[(.object "java/lang/String"), .int, .int, (.object "com/example/fir/fir/edn/Keyword"), .int, (.object "java/lang/Class")]
  staticTypes := #[]
  resolved := Array.replicate 42 none
  statics := none }

def pool14 : Array CpInfo := pool [(2, .class_ 4), (1, u "com/example/fir/fir/core/ValueType"), (24, .class_ 30), (0, u "com/example/fir/fir/core/ValueType$6")] 15

/-- com/example/fir/fir/core/ValueType$6 -/
def k14 : Class := { plain "com/example/fir/fir/core/ValueType$6" (some 8) with
  accessFlags := 16432
  interfaces := #[]
  cf := some (fileOf pool14 29 #[.nestHost 2] #[] 16432 2 #[] #[])
  fields := #[]
  methods := #[]
  instanceTypes := #[(.object "java/lang/String"), .int, .int, (.object "com/example/fir/fir/edn/Keyword"), .int, (.object "java/lang/Class")]
  staticTypes := #[]
  resolved := Array.replicate 46 none
  statics := none }

def pool15 : Array CpInfo := pool [(2, .class_ 4), (1, u "com/example/fir/fir/core/ValueType"), (91, .class_ 97), (0, u "com/example/fir/fir/core/ValueType$7")] 31

/-- com/example/fir/fir/core/ValueType$7 -/
def k15 : Class := { plain "com/example/fir/fir/core/ValueType$7" (some 8) with
  accessFlags := 16432
  interfaces := #[]
  cf := some (fileOf pool15 96 #[.nestHost 2] #[] 16432 2 #[] #[])
  fields := #[]
  methods := #[]
  instanceTypes := #[(.object "java/lang/String"), .int, .int, (.object "com/example/fir/fir/edn/Keyword"), .int, (.object "java/lang/Class")]
  staticTypes := #[]
  resolved := Array.replicate 129 none
  statics := none }

def pool16 : Array CpInfo := pool [(2, .class_ 4), (1, u "com/example/fir/fir/core/ValueType"), (13, .class_ 20), (1, u "com/example/fir/fir/core/ValueType$8")] 46

/-- com/example/fir/fir/core/ValueType$8 -/
def k16 : Class := { plain "com/example/fir/fir/core/ValueType$8" (some 8) with
  accessFlags := 16432
  interfaces := #[]
  cf := some (fileOf pool16 18 #[.nestHost 2] #[] 16432 2 #[] #[])
  fields := #[]
  methods := #[]
  instanceTypes := #[(.object "java/lang/String"), .int, .int, (.object "com/example/fir/fir/edn/Keyword"), .int, (.object "java/lang/Class")]
  staticTypes := #[]
  resolved := Array.replicate 67 none
  statics := none }

def pool17 : Array CpInfo := pool [(2, .class_ 4), (1, u "com/example/fir/fir/core/ValueType"), (26, .class_ 32), (0, u "com/example/fir/fir/core/ValueType$9")] 17

/-- com/example/fir/fir/core/ValueType$9 -/
def k17 : Class := { plain "com/example/fir/fir/core/ValueType$9" (some 8) with
  accessFlags := 16432
  interfaces := #[]
  cf := some (fileOf pool17 31 #[.nestHost 2] #[] 16432 2 #[] #[])
  fields := #[]
  methods := #[]
  instanceTypes := #[(.object "java/lang/String"), .int, .int, (.object "com/example/fir/fir/edn/Keyword"), .int, (.object "java/lang/Class")]
  staticTypes := #[]
  resolved := Array.replicate 50 none
  statics := none }

def pool18 : Array CpInfo := pool [(2, .class_ 4), (1, u "com/example/fir/fir/core/ValueType"), (35, .class_ 41), (0, u "com/example/fir/fir/core/ValueType$10")] 17

/-- com/example/fir/fir/core/ValueType$10 -/
def k18 : Class := { plain "com/example/fir/fir/core/ValueType$10" (some 8) with
  accessFlags := 16432
  interfaces := #[]
  cf := some (fileOf pool18 40 #[.nestHost 2] #[] 16432 2 #[] #[])
  fields := #[]
  methods := #[]
  instanceTypes := #[(.object "java/lang/String"), .int, .int, (.object "com/example/fir/fir/edn/Keyword"), .int, (.object "java/lang/Class")]
  staticTypes := #[]
  resolved := Array.replicate 59 none
  statics := none }

def pool19 : Array CpInfo := pool [(2, .class_ 4), (1, u "com/example/fir/fir/core/ValueType"), (23, .class_ 29), (0, u "com/example/fir/fir/core/ValueType$11")] 33

/-- com/example/fir/fir/core/ValueType$11 -/
def k19 : Class := { plain "com/example/fir/fir/core/ValueType$11" (some 8) with
  accessFlags := 16432
  interfaces := #[]
  cf := some (fileOf pool19 28 #[.nestHost 2] #[] 16432 2 #[] #[])
  fields := #[]
  methods := #[]
  instanceTypes := #[(.object "java/lang/String"), .int, .int, (.object "com/example/fir/fir/edn/Keyword"), .int, (.object "java/lang/Class")]
  staticTypes := #[]
  resolved := Array.replicate 63 none
  statics := none }

def pool20 : Array CpInfo := pool [(2, .class_ 4), (1, u "com/example/fir/fir/core/ValueType"), (29, .class_ 35), (0, u "com/example/fir/fir/core/ValueType$12")] 12

/-- com/example/fir/fir/core/ValueType$12 -/
def k20 : Class := { plain "com/example/fir/fir/core/ValueType$12" (some 8) with
  accessFlags := 16432
  interfaces := #[]
  cf := some (fileOf pool20 34 #[.nestHost 2] #[] 16432 2 #[] #[])
  fields := #[]
  methods := #[]
  instanceTypes := #[(.object "java/lang/String"), .int, .int, (.object "com/example/fir/fir/edn/Keyword"), .int, (.object "java/lang/Class")]
  staticTypes := #[]
  resolved := Array.replicate 48 none
  statics := none }

def pool21 : Array CpInfo := pool [(2, .class_ 4), (1, u "com/example/fir/fir/core/ValueType"), (34, .class_ 40), (0, u "com/example/fir/fir/core/ValueType$13")] 15

/-- com/example/fir/fir/core/ValueType$13 -/
def k21 : Class := { plain "com/example/fir/fir/core/ValueType$13" (some 8) with
  accessFlags := 16432
  interfaces := #[]
  cf := some (fileOf pool21 39 #[.nestHost 2] #[] 16432 2 #[] #[])
  fields := #[]
  methods := #[]
  instanceTypes := #[(.object "java/lang/String"), .int, .int, (.object "com/example/fir/fir/edn/Keyword"), .int, (.object "java/lang/Class")]
  staticTypes := #[]
  resolved := Array.replicate 56 none
  statics := none }

def pool22 : Array CpInfo := pool [(2, .class_ 4), (1, u "com/example/fir/fir/core/ValueType"), (25, .class_ 32), (1, u "com/example/fir/fir/core/ValueType$14")] 47

/-- com/example/fir/fir/core/ValueType$14 -/
def k22 : Class := { plain "com/example/fir/fir/core/ValueType$14" (some 8) with
  accessFlags := 16432
  interfaces := #[]
  cf := some (fileOf pool22 30 #[.nestHost 2] #[] 16432 2 #[] #[])
  fields := #[]
  methods := #[]
  instanceTypes := #[(.object "java/lang/String"), .int, .int, (.object "com/example/fir/fir/edn/Keyword"), .int, (.object "java/lang/Class")]
  staticTypes := #[]
  resolved := Array.replicate 80 none
  statics := none }

def pool23 : Array CpInfo := pool [(1, u "java/lang/Cloneable"), (0, .class_ 1), (0, u "java/lang/Object"), (0, .class_ 3)] 3

/-- java/lang/Cloneable -/
def k23 : Class := { plain "java/lang/Cloneable" (some 0) with
  accessFlags := 1537
  interfaces := #[]
  cf := some (fileOf pool23 2 #[] #[] 1537 4 #[] #[])
  fields := #[]
  methods := #[]
  instanceTypes := #[]
  staticTypes := #[]
  resolved := Array.replicate 8 none
  statics := none }

/-- the primitive byte -/
def k24 : Class := { plain "byte" none with kind := .primitive 'B', accessFlags := 0x411 }
/-- [B -/
def k25 : Class := { plain "[B" (some 0) with kind := .array 24 .byte, interfaces := #[23, 4], accessFlags := 1041 }

/-- the primitive int -/
def k26 : Class := { plain "int" none with kind := .primitive 'I', accessFlags := 0x411 }
/-- [I -/
def k27 : Class := { plain "[I" (some 0) with kind := .array 26 .int, interfaces := #[23, 4], accessFlags := 1041 }

def heap : Heap := #[{ cls := 6, slots := #[.ref 16, .ref 17, .ref 18, .ref 19, .null, .null, .null], vm := .statics 6 },
  { cls := 8, slots := #[.ref 2, .ref 3, .ref 4, .ref 5, .ref 6, .ref 7, .ref 8, .ref 9, .ref 10, .ref 11, .ref 12, .ref 13, .ref 14, .ref 15, .int 0, .int 0, .int 0, .int 0, .int 0, .int 0, .null, .null, .null, .null], vm := .statics 8 },
  { cls := 9, slots := #[.null, .int 0, .int 0, .null, .int 0, .null], vm := .none },
  { cls := 10, slots := #[.null, .int 1, .int 0, .null, .int 0, .null], vm := .none },
  { cls := 11, slots := #[.null, .int 2, .int 0, .null, .int 0, .null], vm := .none },
  { cls := 12, slots := #[.null, .int 3, .int 0, .null, .int 0, .null], vm := .none },
  { cls := 13, slots := #[.null, .int 4, .int 0, .null, .int 0, .null], vm := .none },
  { cls := 14, slots := #[.null, .int 5, .int 0, .null, .int 0, .null], vm := .none },
  { cls := 15, slots := #[.null, .int 6, .int 0, .null, .int 0, .null], vm := .none },
  { cls := 16, slots := #[.null, .int 7, .int 0, .null, .int 0, .null], vm := .none },
  { cls := 17, slots := #[.null, .int 8, .int 0, .null, .int 0, .null], vm := .none },
  { cls := 18, slots := #[.null, .int 9, .int 0, .null, .int 0, .null], vm := .none },
  { cls := 19, slots := #[.null, .int 10, .int 0, .null, .int 0, .null], vm := .none },
  { cls := 20, slots := #[.null, .int 11, .int 0, .null, .int 0, .null], vm := .none },
  { cls := 21, slots := #[.null, .int 12, .int 0, .null, .int 0, .null], vm := .none },
  { cls := 22, slots := #[.null, .int 13, .int 0, .null, .int 0, .null], vm := .none },
  { cls := 6, slots := #[.null, .int 0, .int 0, .int 0, .int 0, .null, .null], vm := .none },
  { cls := 6, slots := #[.null, .int 1, .int 0, .int 0, .int 0, .null, .null], vm := .none },
  { cls := 6, slots := #[.null, .int 2, .int 0, .int 0, .int 0, .null, .null], vm := .none },
  { cls := 6, slots := #[.null, .int 3, .int 0, .int 0, .int 0, .ref 6, .null], vm := .none }]
def classes : Array Class := #[k0, k1, k2, k3, k4, k5, k6, k7, k8, k9, k10, k11, k12, k13, k14, k15, k16, k17, k18, k19, k20, k21, k22, k23, k24, k25, k26, k27]
def interned : List (Array UInt16 × Addr) := []
def slotsUsed : Nat := 143
def theMethod : MethodId := ⟨1, 1⟩
def args0 : Array Value := #[.int 5, .int 7]
def aboutOver (below : List Frame) : State where
  vm := { classes := classes, interned := interned.toArray }
  heap := heap
  slotsUsed := slotsUsed
  threads := #[{ frames := .invoking theMethod args0 :: below }]
def below0 : List Frame := [.native { method := ⟨0, 0⟩, args := #[] }]
def about1 : State := aboutOver below0
def p0 : Program := .bare "" "" ""
def e0 : Env := launch0.env 0 0 0
theorem w_frames : about1.frames = Frame.invoking theMethod args0 :: below0 := rfl
set_option maxRecDepth 65536 in
theorem w_args : argsFit about1.vm theMethod args0 = true := by decide +kernel
set_option maxRecDepth 65536 in
theorem w_heap : heapFits about1 = true := by decide +kernel
set_option maxRecDepth 65536 in
theorem w_runnable : about1.curStatus? = some .runnable := by decide +kernel
set_option maxRecDepth 65536 in
theorem w_alone : about1.alone = true := by decide +kernel
set_option maxRecDepth 65536 in
theorem w_named : about1.methodNamed? x = some theMethod := by decide +kernel
set_option maxRecDepth 65536 in
theorem w_hears : about1.hears theMethod below0 = true := by decide +kernel
set_option maxRecDepth 65536 in
theorem w_ripe : about1.ripe theMethod args0 below0 = true := by decide +kernel
theorem w_running : about1.status = .running := rfl
set_option maxRecDepth 65536 in
theorem w_room : about1.hasRoom e0.platform room_1 = true :=
  launch0.hasRoom_least _ room_1 (by decide +kernel) (by decide +kernel) (by decide +kernel) (by decide +kernel) (by decide +kernel) (by decide +kernel)
theorem allAtoms_all (ts : List Jvm.Cond) (a : Array Jvm.Value) (st : Jvm.State) : (allAtoms ts).before a st = ts.all (fun c => c.before a st) := by
  induction ts with
  | nil => rfl
  | cons c t ih =>
    show (Jvm.Cond.and c (allAtoms t)).before a st = _
    rw [Jvm.Cond.before_and, ih, List.all_cons]
def words1 : List Jvm.Cond := Jvm.Cond.code x code maxLocals ret :: tables_1
/-- a 'code' word, met by the world's own term for the bytes: nothing is compared byte by byte -/
theorem code_word {y : MethodName} {bytes : ByteArray} {mx : Nat} {rt : Option FieldType} {a : Array Value} {s : State} {m : MethodId} {meth : Method} {c : Code} (h1 : s.methodNamed? y = some m) (h2 : s.vm.method? m = some meth) (h3 : meth.code = some c) (h4 : c.code = bytes)
    (h5 : (c.maxLocals == mx && c.exceptionTable.isEmpty && decide (c.maxStack ≤ mostOperands) && decide (meth.sig.returnType = rt) && !meth.locks && decide (parseMethodDescriptor y.desc = some meth.sig)) = true) : (Jvm.Cond.code y bytes mx rt).before a s = true := by
  simp only [Bool.and_eq_true, beq_iff_eq, Bool.not_eq_true', decide_eq_true_eq] at h5
  obtain ⟨⟨⟨⟨⟨g1, g2⟩, g3⟩, g4⟩, g5⟩, g6⟩ := h5
  simp [Cond.before, Cond.holds, Cond.value, h1, h2, h3, h4, g1, g2, g3, g4, g5, g6]
def isCode : Jvm.Cond → Bool
  | .code _ _ _ _ => true
  | _ => false
theorem all_split {L : List Jvm.Cond} {P : Jvm.Cond → Bool} (h1 : L.all (fun c => isCode c || P c) = true) (h2 : ∀ c ∈ L.filter isCode, P c = true) : L.all P = true := by
  refine List.all_eq_true.mpr fun c hc => ?_
  have h := List.all_eq_true.mp h1 c hc
  rcases Bool.eq_false_or_eq_true (isCode c) with hi | hi
  · exact h2 c (List.mem_filter.mpr ⟨hc, hi⟩)
  · simpa [hi] using h
set_option maxRecDepth 65536 in
theorem w_c0 : (Jvm.Cond.code x code maxLocals ret).before args0 about1 = true := code_word (m := ⟨1, 1⟩) (meth := k1m1) (c := k1c1) (by decide +kernel) rfl rfl rfl (by decide +kernel)
set_option maxRecDepth 65536 in
theorem w_c1 : (Jvm.Cond.code ({ cls := "com/example/fir/fir/core/IndexHoldsPinLaw", name := "index", desc := "(I)Lcom/example/fir/fir/core/Index;" } : Jvm.MethodName) method_3_code (1 : Nat) (Option.some (Jvm.ClassFile.FieldType.object "com/example/fir/fir/core/Index"))).before args0 about1 = true := code_word (m := ⟨1, 2⟩) (meth := k1m2) (c := k1c2) (by decide +kernel) rfl rfl rfl (by decide +kernel)
set_option maxRecDepth 65536 in
theorem w_c2 : (Jvm.Cond.code ({ cls := "com/example/fir/fir/core/IndexHoldsPinLaw", name := "type", desc := "(I)Lcom/example/fir/fir/core/ValueType;" } : Jvm.MethodName) method_4_code (1 : Nat) (Option.some (Jvm.ClassFile.FieldType.object "com/example/fir/fir/core/ValueType"))).before args0 about1 = true := code_word (m := ⟨1, 3⟩) (meth := k1m3) (c := k1c3) (by decide +kernel) rfl rfl rfl (by decide +kernel)
set_option maxRecDepth 65536 in
theorem w_c3 : (Jvm.Cond.code ({ cls := "com/example/fir/fir/core/Index", name := "holds", desc := "(Lcom/example/fir/fir/core/ValueType;)Z" } : Jvm.MethodName) prog_25_method_5_code (2 : Nat) (Option.some Jvm.ClassFile.FieldType.boolean)).before args0 about1 = true := code_word (m := ⟨6, 0⟩) (meth := k6m0) (c := k6c0) (by decide +kernel) rfl rfl rfl (by decide +kernel)
def codes1 : List Jvm.Cond := [Jvm.Cond.code x code maxLocals ret, Jvm.Cond.code ({ cls := "com/example/fir/fir/core/IndexHoldsPinLaw", name := "index", desc := "(I)Lcom/example/fir/fir/core/Index;" } : Jvm.MethodName) method_3_code (1 : Nat) (Option.some (Jvm.ClassFile.FieldType.object "com/example/fir/fir/core/Index")), Jvm.Cond.code ({ cls := "com/example/fir/fir/core/IndexHoldsPinLaw", name := "type", desc := "(I)Lcom/example/fir/fir/core/ValueType;" } : Jvm.MethodName) method_4_code (1 : Nat) (Option.some (Jvm.ClassFile.FieldType.object "com/example/fir/fir/core/ValueType")), Jvm.Cond.code ({ cls := "com/example/fir/fir/core/Index", name := "holds", desc := "(Lcom/example/fir/fir/core/ValueType;)Z" } : Jvm.MethodName) prog_25_method_5_code (2 : Nat) (Option.some Jvm.ClassFile.FieldType.boolean)]
set_option maxRecDepth 65536 in
theorem codes_eq : words1.filter isCode = codes1 := rfl
theorem w_codes : ∀ c ∈ words1.filter isCode, c.before args0 about1 = true := by
  rw [codes_eq]
  intro c hc
  simp only [codes1, List.mem_cons, List.not_mem_nil, or_false] at hc
  rcases hc with rfl | rfl | rfl | rfl
  · exact w_c0
  · exact w_c1
  · exact w_c2
  · exact w_c3
set_option maxRecDepth 65536 in
theorem w_t1 : (words1.take 24).all (fun c => isCode c || c.before args0 about1) = true := by decide +kernel
set_option maxRecDepth 65536 in
theorem w_t2 : ((words1.drop 24).take 24).all (fun c => isCode c || c.before args0 about1) = true := by decide +kernel
set_option maxRecDepth 65536 in
theorem w_t3 : ((words1.drop 24).drop 24).all (fun c => isCode c || c.before args0 about1) = true := by decide +kernel
theorem w_tables : (allAtoms (Jvm.Cond.code x code maxLocals ret :: tables_1)).before args0 about1 = true := by
  rw [allAtoms_all]
  show words1.all (fun c => c.before args0 about1) = true
  refine all_split ?_ w_codes
  rw [← List.take_append_drop 24 words1, List.all_append, w_t1, ← List.take_append_drop 24 (words1.drop 24), List.all_append, w_t2, w_t3]
  rfl
set_option maxRecDepth 65536 in
theorem w_case : (Jvm.Cond.and given_1 narrow_1).before args0 about1 = true := by decide +kernel
theorem w_applies : (headSpec (Jvm.Cond.code x code maxLocals ret :: tables_1) room_1).applies x e0.platform about1 = true :=
  (Spec.applies_iff w_frames).mpr ⟨w_running, w_runnable, w_alone, w_named, w_hears, w_ripe, w_room, w_tables⟩
theorem atStart : AtStart classFile x code maxLocals ret World_1 tables_1 room_1 Calls_1 rest_1 Pre_1 launch0 p0 e0 about1 theMethod args0 below0 :=
  ⟨lists_1, trivial, launch0.admits_env _ _ _, launch0.least_env, fairChoices_fair.cas, fairChoices_fair.clock, w_frames, w_args, w_heap, w_applies, trivial, trivial, w_case⟩
end start1
theorem witness_1 : WitnessClaimed_1 := ⟨start1.p0, start1.e0, start1.about1, start1.theMethod, start1.args0, start1.below0, start1.atStart⟩
end Jvm.Pilot.@@N@@
