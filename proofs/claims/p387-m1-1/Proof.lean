import JvmDerived
import JvmDerived.Pilot.@@N@@Statement
import JvmDerived.Pilot.@@N@@Code
set_option linter.unusedVariables false
set_option linter.unusedSimpArgs false
namespace Jvm.RoadKit
open Sem ClassFile Op Lib Jvm.Stand Jvm.Free Jvm.LawKit
section New
variable {p : Program} {l : Launch} {e : Env} {R : Room} {s : State} {m : MethodId} {args : Array Value} {below : List Frame} {meth : Method} {c : Code} {T : State} {locs : List Loc} {cells slots : Nat}
theorem retI (X : Stand p l e R s m args below meth c T locs cells slots) (hx : p.tables.exec = Jvm.exec) {pc : Nat} {Ls : Array Slot} {z : Int32} {rest : List Value} (hret : meth.sig.returnType = some .int) (hd : decode c.code pc = .ok (.ireturn, 1)) {fs : List Frame}
    (hl : ∀ (f : JFrame) (acts : List Action), f.method = m → f.locked = none → f.entered = [] → (doReturn e (T.setTop f) acts (some (.int z))).1 = T.setFrames fs) : Steps p.tables e below (T.setTop (mkF m pc Ls (.int z :: rest))) (T.setFrames fs) := by
  have hm' : T.vm.method? m = some meth := X.method'
  have hn : narrow .int (.int z) = .int z := rfl
  show Steps p.tables e below (T.setTop { method := m, pc := pc, locals := Ls, stack := _ :: rest, locked := none }) _
  jvm_step X.here [X.here.top, hx, hd, hm', hret, hn]
  first | (intro acts; rw [hl _ acts rfl rfl rfl]) | rw [hl _ _ rfl rfl rfl]
  exact Steps.refl _
end New
theorem own_sta_keep {Z : State} {h h' : Heap} {C n d : String} {v : Value} {ws : List Addr} (F : Sta Z h C n d v) (K : Keep h h' ws) (q : ∀ x ∈ ws, ∀ c : Cell, h[x]? = some c → c.vm.isStatics = false) : Sta Z h' C n d v := by
  obtain ⟨cf, i, k, f, st, cell, h1, h2, h3, h4, h5, h6, h7⟩ := F
  exact ⟨cf, i, k, f, st, cell, h1, h2, h3, h4, K.2.1 st cell h5 (fun hm => by rw [q st hm cell h5] at h6; cases h6), h6, h7⟩
theorem own_plain_Exa {Z : State} {h : Heap} {a : Addr} {C : String} (F : Exa Z h a C) : ∀ c : Cell, h[a]? = some c → c.vm.isStatics = false := fun c hc => by
  obtain ⟨cell, _, h1, -, -, h4, -⟩ := F
  cases h1.symm.trans hc; exact h4
theorem own_plain_Arv {Z : State} {h : Heap} {a : Addr} {k : ClassId} {ty : FieldType} {n : Int32} {vs : List Value} {d : Value} (F : Arv Z h a k ty n vs d) : ∀ c : Cell, h[a]? = some c → c.vm.isStatics = false := fun c hc => by
  obtain ⟨cell, A, -⟩ := F
  cases A.1.symm.trans hc; exact A.plain
end Jvm.RoadKit
namespace Jvm.Pilot.@@N@@
open Jvm Jvm.ClassFile Sem Op Lib Jvm.Free Jvm.Stand Jvm.LawKit Jvm.RoadKit Bundle Jvm.Pilot.@@N@@.Jvm.D
def bI (P : Prop) [Decidable P] : Int32 := if P then 1 else 0
theorem bI_eq {P Q : Prop} [Decidable P] [Decidable Q] : bI P = bI Q ↔ (P ↔ Q) := by unfold bI; by_cases h : P <;> by_cases g : Q <;> simp [h, g]
theorem bI_eq1 {P : Prop} [Decidable P] : bI P = 1 ↔ P := by unfold bI; by_cases h : P <;> simp [h]
theorem bI_1eq {P : Prop} [Decidable P] : 1 = bI P ↔ P := by unfold bI; by_cases h : P <;> simp [h]
theorem bI_eq0 {P : Prop} [Decidable P] : bI P = 0 ↔ (P ↔ False) := by unfold bI; by_cases h : P <;> simp [h]
theorem bI_0eq {P : Prop} [Decidable P] : 0 = bI P ↔ (False ↔ P) := by unfold bI; by_cases h : P <;> simp [h]
theorem bI_t {P : Prop} [Decidable P] (h : P) : bI P = 1 := if_pos h
theorem bI_f {P : Prop} [Decidable P] (h : ¬ P) : bI P = 0 := if_neg h
theorem bI_iff {P Q : Prop} [Decidable P] [Decidable Q] (h : P ↔ Q) : bI P = bI Q := bI_eq.mpr h
theorem imp_iff_h {P Q : Prop} (h : P) : (P → Q) ↔ Q := ⟨fun f => f h, fun q _ => q⟩
theorem sel_t {P A B : Prop} (h : P) : ((P ∧ A) ∨ (¬ P ∧ B)) ↔ A := ⟨fun q => q.elim (fun z => z.2) (fun z => absurd h z.1), fun a => Or.inl ⟨h, a⟩⟩
theorem sel_f {P A B : Prop} (h : ¬ P) : ((P ∧ A) ∨ (¬ P ∧ B)) ↔ B := ⟨fun q => q.elim (fun z => absurd z.1 h) (fun z => z.2), fun b => Or.inr ⟨h, b⟩⟩
theorem bB_eq_t {P : Prop} [Decidable P] (h : ¬ P) : ifCond.holds .eq (bI P) = true := by rw [bI_f h]; rfl
theorem bB_eq_f {P : Prop} [Decidable P] (h : P) : ifCond.holds .eq (bI P) = false := by rw [bI_t h]; rfl
theorem bB_ne_t {P : Prop} [Decidable P] (h : P) : ifCond.holds .ne (bI P) = true := by rw [bI_t h]; rfl
theorem bB_ne_f {P : Prop} [Decidable P] (h : ¬ P) : ifCond.holds .ne (bI P) = false := by rw [bI_f h]; rfl
theorem bI_nar {P : Prop} [Decidable P] : nar .boolean (bI P) = bI P := by by_cases h : P <;> simp only [bI, h, if_true, if_false] <;> rfl
theorem bI_ret {P : Prop} [Decidable P] : (some (.int (nar .boolean (bI P))) : Option Value) = some (.int (bI P)) := by rw [bI_nar]
theorem bI_one {P : Prop} [Decidable P] (h : P) : (some (.int (nar .boolean (bI P))) : Option Value) = some (.int 1) := by rw [bI_nar, bI_t h]
theorem own_ite_ref {P : Prop} [Decidable P] {x y : Value} (h : x.isRef = true) (g : y.isRef = true) : (if P then x else y).isRef = true := by by_cases q : P <;> simp [q, h, g]
theorem own_fits_ref {t : FieldType} {x : Value} (ht : t.isReference = true) (h : x.isRef = true) : fits t x = true := by cases t <;> first | (cases ht; done) | (cases x <;> simp_all [fits, Value.isRef])
theorem own_eqI {args : Array Value} {s : State} {t : Term} {k : Int32} (h : (Cond.eq t (.int k)).value args s none s [] = some true) : t.eval args s none [] s = some (.int k) := by
  simp only [Cond.value, Term.eval] at h
  cases ht : t.eval args s none [] s with
  | none => simp [ht] at h
  | some v => cases v <;> simp [ht] at h ⊢; exact h
theorem own_eqR {args : Array Value} {s : State} {t u : Term} {v : Value} (hu : u.eval args s none [] s = some v) (hv : v.isRef = true) (h : (Cond.eq t u).value args s none s [] = some true) : t.eval args s none [] s = some v := by
  cases ht : t.eval args s none [] s with
  | none => simp [Cond.value, ht, hu] at h
  | some x =>
    rcases ref_cases hv with rfl | ⟨a, rfl⟩ <;> cases x <;> simp [Cond.value, ht, hu] at h ⊢ <;> exact h
theorem own_len {args : Array Value} {s : State} {t : Term} {a : Addr} {c : Cell} {ty : FieldType} {k : Int32} (ev : t.eval args s none [] s = some (.ref a)) (A : Arr s s.heap a c ty) (h : (Term.length t).eval args s none [] s = some (.int k)) : c.slots.size < 2 ^ 31 ∧ c.slots.size.toInt32 = k := by
  have ha := A.fin (Vm.Alike.refl _)
  by_cases q : c.slots.size < 2 ^ 31
  · rw [len_f ev ha q] at h; exact ⟨q, by injection h with h; injection h⟩
  · simp [Term.eval, ev, ha, q] at h


theorem own_or {u m b : Int64} : (u ||| m) ||| b = 0 ↔ (u = 0 ∧ (m = 0 ∧ b = 0)) := by
  constructor
  · intro h
    have h1 : ((u ||| m) ||| b).toBitVec = 0#64 := by rw [h]; rfl
    rw [Int64.toBitVec_or, Int64.toBitVec_or] at h1
    have k : ∀ {x y : BitVec 64}, x ||| y = 0#64 → x = 0#64 ∧ y = 0#64 := by
      intro x y q
      exact BitVec.or_eq_zero_iff.mp q
    obtain ⟨h2, h3⟩ := k h1
    obtain ⟨h4, h5⟩ := k h2
    exact ⟨Int64.toBitVec_inj.mp h4, Int64.toBitVec_inj.mp h5, Int64.toBitVec_inj.mp h3⟩
  · rintro ⟨rfl, rfl, rfl⟩; decide

theorem d2_0 : decode jdk_30_method_1_code 0 = .ok (.aload_n 0, 1) := by decide +kernel
theorem d2_1 : decode jdk_30_method_1_code 1 = .ok (.invokespecial 1, 3) := by decide +kernel
theorem d2_4 : decode jdk_30_method_1_code 4 = .ok (.return_, 1) := by decide +kernel
theorem pn_2 : plainName "java/lang/Record" = true := by first | (simp [plainName, overriddenIn]; done) | decide +kernel
theorem ef_rm2 (m : MethodId) (x0 : Addr) : entryFrame m #[(.ref x0)] 1 = mkF m 0 #[.val (.ref x0)] [] := by first | (simp [entryFrame, mkF, argsToLocals, Value.category]; done) | rfl
def Q2 (Z : State) (a : Addr) (h0 : Heap) (n0 : Nat) (v : Option Value) (h : Heap) (L : List Loc) : Prop := v = none ∧ Fr n0 L ∧ h = h0
set_option maxRecDepth 65536 in
set_option maxHeartbeats 40000000 in
theorem rm2 (l : Launch) (Z : State) (a0 : Array Value) (hw : ∀ d ∈ tables_1, d.before a0 Z = true) (ws : List Jvm.Cond) (a : Addr) (h0 : Heap) (n0 : Nat) (Z0 : n0 ≤ h0.size) :
    MetFree l (⟨"java/lang/Record", "<init>", "()V"⟩ : MethodName) (head1 (Jvm.Cond.code (⟨"java/lang/Record", "<init>", "()V"⟩ : MethodName) jdk_30_method_1_code 1 none :: ws) ({ frames := 1, cells := 0, slots := 0, locals := 12 } : Room)) (fun ar UU => ar = #[(.ref a)] ∧ Z.Warmed39 UU.vm ∧ UU.heap = h0) (fun _ _ _ _ _ => True) (fun _ UU oo UU' => ∃ vv LL, oo = .returned vv ∧ Q2 Z a h0 n0 vv UU'.heap LL ∧ FrameEnd UU oo UU' LL ({ frames := 1, cells := 0, slots := 0, locals := 12 } : Room).cells ({ frames := 1, cells := 0, slots := 0, locals := 12 } : Room).slots) := by
  refine MetFree.of_bodySF (plainFor_of_name pn_2) hisR ?_
  intro p e s m args below meth c s₁ Bd hml0 hP hK
  obtain ⟨rfl, hZ, hh⟩ := hP
  have hx := Bd.exec
  have hby := Bd.bytes
  have hml : c.maxLocals = 1 := hml0
  have hown : s.vm.findClass "java/lang/Record" = some m.cls := findClass_of_methodNamed Bd.named
  have hnm := (name_of_methodNamed Bd.named Bd.method).1
  have X0 : Stand p l e ({ frames := 1, cells := 0, slots := 0, locals := 12 } : Room) s m #[(.ref a)] below meth c s₁ [] 0 0 := Stand.of_body Bd
  have e0 : s₁.heap = h0 := by rw [← hh, Bd.state]; rfl
  have N0 := Fr.nil n0
  have KC0 : Keep h0 h0 [] := Keep.refl h0 []
  have pre0 : ∀ tgt, Steps p.tables e below (s₁.setTop (mkF m 0 #[.val (.ref a)] [])) tgt → Steps p.tables e below (s₁.setTop (entryFrame m #[(.ref a)] 1)) tgt := fun tgt kk => castTop (ef_rm2 m (a)) kk
  have pre1 : ∀ tgt, Steps p.tables e below (s₁.setTop (mkF m 1 #[.val (.ref a)] [(.ref a)])) tgt → Steps p.tables e below (s₁.setTop (entryFrame m #[(.ref a)] 1)) tgt := by
    intro tgt kk
    refine pre0 tgt ?_
    refine XS.aloadN X0.here hx rfl (hb hby d2_0) rfl rfl ?_
    show Steps p.tables e below (s₁.setTop (mkF m 1 #[.val (.ref a)] [(.ref a)])) _
    exact kk
  obtain ⟨T2, X2, e2, st2⟩ := initO X0 hx hZ hown (hw _ (List.mem_of_getElem? (i := 11) rfl)) (hw _ (List.mem_of_getElem? (i := 12) rfl)) (hw _ (List.mem_of_getElem? (i := 13) rfl)) e0 (g := (mkF m 1 #[.val (.ref a)] [(.ref a)])) rfl (by rw [hml]; rfl) rfl (hb hby d2_1) (by decide) (W := 0) (by show 2 * 0 + _ ≤ _; exact Nat.le_of_eq rfl) (by decide)
  obtain ⟨fs, hr, hrun, hended, hW, hsame⟩ := X2.leave (v := none) (fun _ => rfl)
  refine ⟨_, _, pre1 _ ?_, hrun, hended, _, _, rfl, ?_, ⟨_, rfl⟩, hW, hsame.mono (by decide) (by decide)⟩
  · skip
    refine st2 _ ?_
    show Steps p.tables e below (T2.setTop (mkF m 4 #[.val (.ref a)] [])) _
    exact X2.returnOut hx Bd.returns (hb hby d2_4) hr
  · show Q2 Z a h0 n0 _ T2.heap _
    rw [e2]
    exact ⟨rfl, N0, rfl⟩
theorem d1_0 : decode prog_29_method_1_code 0 = .ok (.aload_n 0, 1) := by decide +kernel
theorem d1_1 : decode prog_29_method_1_code 1 = .ok (.invokespecial 1, 3) := by decide +kernel
theorem d1_4 : decode prog_29_method_1_code 4 = .ok (.aload_n 0, 1) := by decide +kernel
theorem d1_5 : decode prog_29_method_1_code 5 = .ok (.lload_n 1, 1) := by decide +kernel
theorem d1_6 : decode prog_29_method_1_code 6 = .ok (.putfield 7, 3) := by decide +kernel
theorem d1_9 : decode prog_29_method_1_code 9 = .ok (.aload_n 0, 1) := by decide +kernel
theorem d1_10 : decode prog_29_method_1_code 10 = .ok (.lload_n 3, 1) := by decide +kernel
theorem d1_11 : decode prog_29_method_1_code 11 = .ok (.putfield 13, 3) := by decide +kernel
theorem d1_14 : decode prog_29_method_1_code 14 = .ok (.aload_n 0, 1) := by decide +kernel
theorem d1_15 : decode prog_29_method_1_code 15 = .ok (.lload 5, 2) := by decide +kernel
theorem d1_17 : decode prog_29_method_1_code 17 = .ok (.putfield 16, 3) := by decide +kernel
theorem d1_20 : decode prog_29_method_1_code 20 = .ok (.aload_n 0, 1) := by decide +kernel
theorem d1_21 : decode prog_29_method_1_code 21 = .ok (.lload 7, 2) := by decide +kernel
theorem d1_23 : decode prog_29_method_1_code 23 = .ok (.putfield 19, 3) := by decide +kernel
theorem d1_26 : decode prog_29_method_1_code 26 = .ok (.aload_n 0, 1) := by decide +kernel
theorem d1_27 : decode prog_29_method_1_code 27 = .ok (.lload 9, 2) := by decide +kernel
theorem d1_29 : decode prog_29_method_1_code 29 = .ok (.putfield 22, 3) := by decide +kernel
theorem d1_32 : decode prog_29_method_1_code 32 = .ok (.return_, 1) := by decide +kernel
theorem pn_1 : plainName "com/example/keelbook/keelbook/store/Audit$Summary" = true := by first | (simp [plainName, overriddenIn]; done) | decide +kernel
theorem pd___V : parseMethodDescriptor "()V" = some ⟨[], none⟩ := by decide +kernel
theorem ef_rm1 (m : MethodId) (x0 : Addr) (x1 : Int64) (x2 : Int64) (x3 : Int64) (x4 : Int64) (x5 : Int64) : entryFrame m #[(.ref x0), (.long x1), (.long x2), (.long x3), (.long x4), (.long x5)] 11 = mkF m 0 #[.val (.ref x0), .val (.long x1), .second, .val (.long x2), .second, .val (.long x3), .second, .val (.long x4), .second, .val (.long x5), .second] [] := by first | (simp [entryFrame, mkF, argsToLocals, Value.category]; done) | rfl
def Q1 (Z : State) (a : Addr) (q1 : Int64) (q2 : Int64) (q3 : Int64) (q4 : Int64) (q5 : Int64) (h0 : Heap) (n0 : Nat) (v : Option Value) (h : Heap) (L : List Loc) : Prop := v = none ∧ Fr n0 L ∧ Keep h0 h [a] ∧ Fld Z h a "com/example/keelbook/keelbook/store/Audit$Summary" "transactions" "J" (.long q1) ∧ Fld Z h a "com/example/keelbook/keelbook/store/Audit$Summary" "unbalancedTransactions" "J" (.long q2) ∧ Fld Z h a "com/example/keelbook/keelbook/store/Audit$Summary" "malformedTransactions" "J" (.long q3) ∧ Fld Z h a "com/example/keelbook/keelbook/store/Audit$Summary" "accounts" "J" (.long q4) ∧ Fld Z h a "com/example/keelbook/keelbook/store/Audit$Summary" "balanceMismatches" "J" (.long q5)
set_option maxRecDepth 65536 in
set_option maxHeartbeats 40000000 in
theorem rm1 (l : Launch) (Z : State) (a0 : Array Value) (hw : ∀ d ∈ tables_1, d.before a0 Z = true) (ws : List Jvm.Cond) (a : Addr) (q1 : Int64) (q2 : Int64) (q3 : Int64) (q4 : Int64) (q5 : Int64) (h0 : Heap) (n0 : Nat) (Z0 : n0 ≤ h0.size) (E_a : Exa Z h0 a "com/example/keelbook/keelbook/store/Audit$Summary") (F_transactions : Fld Z h0 a "com/example/keelbook/keelbook/store/Audit$Summary" "transactions" "J" (.long (0 : Int64))) (F_unbalancedTransactions : Fld Z h0 a "com/example/keelbook/keelbook/store/Audit$Summary" "unbalancedTransactions" "J" (.long (0 : Int64))) (F_malformedTransactions : Fld Z h0 a "com/example/keelbook/keelbook/store/Audit$Summary" "malformedTransactions" "J" (.long (0 : Int64))) (F_accounts : Fld Z h0 a "com/example/keelbook/keelbook/store/Audit$Summary" "accounts" "J" (.long (0 : Int64))) (F_balanceMismatches : Fld Z h0 a "com/example/keelbook/keelbook/store/Audit$Summary" "balanceMismatches" "J" (.long (0 : Int64))) (g_a : n0 ≤ a) :
    MetFree l (⟨"com/example/keelbook/keelbook/store/Audit$Summary", "<init>", "(JJJJJ)V"⟩ : MethodName) (head1 (Jvm.Cond.code (⟨"com/example/keelbook/keelbook/store/Audit$Summary", "<init>", "(JJJJJ)V"⟩ : MethodName) prog_29_method_1_code 11 none :: ws) ({ frames := 2, cells := 0, slots := 0, locals := 24 } : Room)) (fun ar UU => ar = #[(.ref a), (.long q1), (.long q2), (.long q3), (.long q4), (.long q5)] ∧ Z.Warmed39 UU.vm ∧ UU.heap = h0) (fun _ _ _ _ _ => True) (fun _ UU oo UU' => ∃ vv LL, oo = .returned vv ∧ Q1 Z a q1 q2 q3 q4 q5 h0 n0 vv UU'.heap LL ∧ FrameEnd UU oo UU' LL ({ frames := 2, cells := 0, slots := 0, locals := 24 } : Room).cells ({ frames := 2, cells := 0, slots := 0, locals := 24 } : Room).slots) := by
  refine MetFree.of_bodySF (plainFor_of_name pn_1) hisR ?_
  intro p e s m args below meth c s₁ Bd hml0 hP hK
  obtain ⟨rfl, hZ, hh⟩ := hP
  have hx := Bd.exec
  have hby := Bd.bytes
  have hml : c.maxLocals = 11 := hml0
  have hown : s.vm.findClass "com/example/keelbook/keelbook/store/Audit$Summary" = some m.cls := findClass_of_methodNamed Bd.named
  have hnm := (name_of_methodNamed Bd.named Bd.method).1
  have X0 : Stand p l e ({ frames := 2, cells := 0, slots := 0, locals := 24 } : Room) s m #[(.ref a), (.long q1), (.long q2), (.long q3), (.long q4), (.long q5)] below meth c s₁ [] 0 0 := Stand.of_body Bd
  have e0 : s₁.heap = h0 := by rw [← hh, Bd.state]; rfl
  have N0 := Fr.nil n0
  have KC0 : Keep h0 h0 [a] := Keep.refl h0 [a]
  have pre0 : ∀ tgt, Steps p.tables e below (s₁.setTop (mkF m 0 #[.val (.ref a), .val (.long q1), .second, .val (.long q2), .second, .val (.long q3), .second, .val (.long q4), .second, .val (.long q5), .second] [])) tgt → Steps p.tables e below (s₁.setTop (entryFrame m #[(.ref a), (.long q1), (.long q2), (.long q3), (.long q4), (.long q5)] 11)) tgt := fun tgt kk => castTop (ef_rm1 m (a) (q1) (q2) (q3) (q4) (q5)) kk
  have pre1 : ∀ tgt, Steps p.tables e below (s₁.setTop (mkF m 1 #[.val (.ref a), .val (.long q1), .second, .val (.long q2), .second, .val (.long q3), .second, .val (.long q4), .second, .val (.long q5), .second] [(.ref a)])) tgt → Steps p.tables e below (s₁.setTop (entryFrame m #[(.ref a), (.long q1), (.long q2), (.long q3), (.long q4), (.long q5)] 11)) tgt := by
    intro tgt kk
    refine pre0 tgt ?_
    refine XS.aloadN X0.here hx rfl (hb hby d1_0) rfl rfl ?_
    show Steps p.tables e below (s₁.setTop (mkF m 1 #[.val (.ref a), .val (.long q1), .second, .val (.long q2), .second, .val (.long q3), .second, .val (.long q4), .second, .val (.long q5), .second] [(.ref a)])) _
    exact kk
  obtain ⟨_, _, ⟨T2, L2, k2, n2⟩, -, X2, ⟨Lc2, hQ2, l2, y2, z2⟩, st2⟩ := X0.specialBack hx (y := (⟨"java/lang/Record", "<init>", "()V"⟩ : MethodName)) rfl hown (mvT hZ (hw _ (List.mem_of_getElem? (i := 6) rfl))) (mvT hZ (hw _ (List.mem_of_getElem? (i := 7) rfl))) (mvT hZ (hw _ (List.mem_of_getElem? (i := 10) rfl))) (by decide) (backOf (W := 0) (rm2 l Z a0 hw [] a h0 n0 Z0) hZ (hw _ (List.mem_of_getElem? (i := 10) rfl)) (hw _ (List.mem_of_getElem? (i := 9) rfl)) (by decide) (by decide)) (g := (mkF m 1 #[.val (.ref a), .val (.long q1), .second, .val (.long q2), .second, .val (.long q3), .second, .val (.long q4), .second, .val (.long q5), .second] [(.ref a)])) rfl (by rw [hml]; rfl) (Steps.refl _) (a := a) (argsL := []) (rest := []) (lenOf pd___V rfl) rfl (by show 2 * 0 + _ ≤ _; exact Nat.le_of_eq rfl) (hb hby d1_1) (fun _ _ => ⟨rfl, e0, (by decide : 0 + 0 ≤ _), (by decide : 0 + 0 ≤ _)⟩)
  dsimp only [Pt.U, Pt.locs, Pt.cells, Pt.slots] at X2 l2 y2 z2 st2 hQ2
  subst l2 y2 z2
  obtain ⟨rfl, N2q, hh2⟩ := hQ2
  have N2 := Fr.app N0 N2q
  have pre3 : ∀ tgt, Steps p.tables e below (T2.setTop (mkF m 6 #[.val (.ref a), .val (.long q1), .second, .val (.long q2), .second, .val (.long q3), .second, .val (.long q4), .second, .val (.long q5), .second] [(.long q1), (.ref a)])) tgt → Steps p.tables e below (s₁.setTop (entryFrame m #[(.ref a), (.long q1), (.long q2), (.long q3), (.long q4), (.long q5)] 11)) tgt := by
    intro tgt kk
    refine pre1 tgt ?_
    refine st2.trans ?_
    show Steps p.tables e below (T2.setTop (mkF m 4 #[.val (.ref a), .val (.long q1), .second, .val (.long q2), .second, .val (.long q3), .second, .val (.long q4), .second, .val (.long q5), .second] [])) _
    refine XS.aloadN X2.here hx rfl (hb hby d1_4) rfl rfl ?_
    show Steps p.tables e below (T2.setTop (mkF m 5 #[.val (.ref a), .val (.long q1), .second, .val (.long q2), .second, .val (.long q3), .second, .val (.long q4), .second, .val (.long q5), .second] [(.ref a)])) _
    refine XS.lloadN X2.here hx rfl (hb hby d1_5) rfl ?_
    show Steps p.tables e below (T2.setTop (mkF m 6 #[.val (.ref a), .val (.long q1), .second, .val (.long q2), .second, .val (.long q3), .second, .val (.long q4), .second, .val (.long q5), .second] [(.long q1), (.ref a)])) _
    exact kk
  obtain ⟨T4, h4, X4, e4, W4, st4⟩ := putF X2 hx hZ hown (host := "") (Or.inl (hw _ (List.mem_of_getElem? (i := 14) rfl))) Via.refl hh2 F_transactions E_a (Or.inr ⟨(hw _ (List.mem_of_getElem? (i := 15) rfl)), rfl, hnm⟩) (hw _ (List.mem_of_getElem? (i := 1) rfl)) (ty := .long) (by decide) rfl rfl (g := (mkF m 6 #[.val (.ref a), .val (.long q1), .second, .val (.long q2), .second, .val (.long q3), .second, .val (.long q4), .second, .val (.long q5), .second] [(.long q1), (.ref a)])) rfl rfl (hb hby d1_6)
  have N4 := Fr.snoc X4 N2 g_a
  have Fq4 : Fld Z h4 a "com/example/keelbook/keelbook/store/Audit$Summary" "transactions" "J" (.long q1) := F_transactions.same W4
  have E_a : Exa Z h4 a "com/example/keelbook/keelbook/store/Audit$Summary" := E_a.wr W4
  have F_unbalancedTransactions : Fld Z h4 a "com/example/keelbook/keelbook/store/Audit$Summary" "unbalancedTransactions" "J" (.long (0 : Int64)) := F_unbalancedTransactions.other W4 (Or.inr (slot_ne (Or.inr (hw _ (List.mem_of_getElem? (i := 17) rfl))) (Or.inr (hw _ (List.mem_of_getElem? (i := 15) rfl))) (by decide) (t := .long) (t' := .long) (by decide) (by decide)))
  have F_malformedTransactions : Fld Z h4 a "com/example/keelbook/keelbook/store/Audit$Summary" "malformedTransactions" "J" (.long (0 : Int64)) := F_malformedTransactions.other W4 (Or.inr (slot_ne (Or.inr (hw _ (List.mem_of_getElem? (i := 19) rfl))) (Or.inr (hw _ (List.mem_of_getElem? (i := 15) rfl))) (by decide) (t := .long) (t' := .long) (by decide) (by decide)))
  have F_accounts : Fld Z h4 a "com/example/keelbook/keelbook/store/Audit$Summary" "accounts" "J" (.long (0 : Int64)) := F_accounts.other W4 (Or.inr (slot_ne (Or.inr (hw _ (List.mem_of_getElem? (i := 21) rfl))) (Or.inr (hw _ (List.mem_of_getElem? (i := 15) rfl))) (by decide) (t := .long) (t' := .long) (by decide) (by decide)))
  have F_balanceMismatches : Fld Z h4 a "com/example/keelbook/keelbook/store/Audit$Summary" "balanceMismatches" "J" (.long (0 : Int64)) := F_balanceMismatches.other W4 (Or.inr (slot_ne (Or.inr (hw _ (List.mem_of_getElem? (i := 23) rfl))) (Or.inr (hw _ (List.mem_of_getElem? (i := 15) rfl))) (by decide) (t := .long) (t' := .long) (by decide) (by decide)))
  have Zs5 : n0 ≤ h4.size := Nat.le_trans Z0 (Keep.of_wr W4).1
  have KC5 : Keep h0 h4 [a] := KC0.wr W4 (Or.inl (List.mem_of_getElem? (i := 0) rfl))
  have F_transactions := Fq4
  have pre6 : ∀ tgt, Steps p.tables e below (T4.setTop (mkF m 11 #[.val (.ref a), .val (.long q1), .second, .val (.long q2), .second, .val (.long q3), .second, .val (.long q4), .second, .val (.long q5), .second] [(.long q2), (.ref a)])) tgt → Steps p.tables e below (s₁.setTop (entryFrame m #[(.ref a), (.long q1), (.long q2), (.long q3), (.long q4), (.long q5)] 11)) tgt := by
    intro tgt kk
    refine pre3 tgt ?_
    refine st4 _ ?_
    show Steps p.tables e below (T4.setTop (mkF m 9 #[.val (.ref a), .val (.long q1), .second, .val (.long q2), .second, .val (.long q3), .second, .val (.long q4), .second, .val (.long q5), .second] [])) _
    refine XS.aloadN X4.here hx rfl (hb hby d1_9) rfl rfl ?_
    show Steps p.tables e below (T4.setTop (mkF m 10 #[.val (.ref a), .val (.long q1), .second, .val (.long q2), .second, .val (.long q3), .second, .val (.long q4), .second, .val (.long q5), .second] [(.ref a)])) _
    refine XS.lloadN X4.here hx rfl (hb hby d1_10) rfl ?_
    show Steps p.tables e below (T4.setTop (mkF m 11 #[.val (.ref a), .val (.long q1), .second, .val (.long q2), .second, .val (.long q3), .second, .val (.long q4), .second, .val (.long q5), .second] [(.long q2), (.ref a)])) _
    exact kk
  obtain ⟨T7, h7, X7, e7, W7, st7⟩ := putF X4 hx hZ hown (host := "") (Or.inl (hw _ (List.mem_of_getElem? (i := 16) rfl))) Via.refl e4 F_unbalancedTransactions E_a (Or.inr ⟨(hw _ (List.mem_of_getElem? (i := 17) rfl)), rfl, hnm⟩) (hw _ (List.mem_of_getElem? (i := 1) rfl)) (ty := .long) (by decide) rfl rfl (g := (mkF m 11 #[.val (.ref a), .val (.long q1), .second, .val (.long q2), .second, .val (.long q3), .second, .val (.long q4), .second, .val (.long q5), .second] [(.long q2), (.ref a)])) rfl rfl (hb hby d1_11)
  have N7 := Fr.snoc X7 N4 g_a
  have Fq7 : Fld Z h7 a "com/example/keelbook/keelbook/store/Audit$Summary" "unbalancedTransactions" "J" (.long q2) := F_unbalancedTransactions.same W7
  have E_a : Exa Z h7 a "com/example/keelbook/keelbook/store/Audit$Summary" := E_a.wr W7
  have F_malformedTransactions : Fld Z h7 a "com/example/keelbook/keelbook/store/Audit$Summary" "malformedTransactions" "J" (.long (0 : Int64)) := F_malformedTransactions.other W7 (Or.inr (slot_ne (Or.inr (hw _ (List.mem_of_getElem? (i := 19) rfl))) (Or.inr (hw _ (List.mem_of_getElem? (i := 17) rfl))) (by decide) (t := .long) (t' := .long) (by decide) (by decide)))
  have F_accounts : Fld Z h7 a "com/example/keelbook/keelbook/store/Audit$Summary" "accounts" "J" (.long (0 : Int64)) := F_accounts.other W7 (Or.inr (slot_ne (Or.inr (hw _ (List.mem_of_getElem? (i := 21) rfl))) (Or.inr (hw _ (List.mem_of_getElem? (i := 17) rfl))) (by decide) (t := .long) (t' := .long) (by decide) (by decide)))
  have F_balanceMismatches : Fld Z h7 a "com/example/keelbook/keelbook/store/Audit$Summary" "balanceMismatches" "J" (.long (0 : Int64)) := F_balanceMismatches.other W7 (Or.inr (slot_ne (Or.inr (hw _ (List.mem_of_getElem? (i := 23) rfl))) (Or.inr (hw _ (List.mem_of_getElem? (i := 17) rfl))) (by decide) (t := .long) (t' := .long) (by decide) (by decide)))
  have F_transactions : Fld Z h7 a "com/example/keelbook/keelbook/store/Audit$Summary" "transactions" "J" (.long q1) := F_transactions.other W7 (Or.inr (slot_ne (Or.inr (hw _ (List.mem_of_getElem? (i := 15) rfl))) (Or.inr (hw _ (List.mem_of_getElem? (i := 17) rfl))) (by decide) (t := .long) (t' := .long) (by decide) (by decide)))
  have Zs8 : n0 ≤ h7.size := Nat.le_trans Zs5 (Keep.of_wr W7).1
  have KC8 : Keep h0 h7 [a] := KC5.wr W7 (Or.inl (List.mem_of_getElem? (i := 0) rfl))
  have F_unbalancedTransactions := Fq7
  have pre9 : ∀ tgt, Steps p.tables e below (T7.setTop (mkF m 17 #[.val (.ref a), .val (.long q1), .second, .val (.long q2), .second, .val (.long q3), .second, .val (.long q4), .second, .val (.long q5), .second] [(.long q3), (.ref a)])) tgt → Steps p.tables e below (s₁.setTop (entryFrame m #[(.ref a), (.long q1), (.long q2), (.long q3), (.long q4), (.long q5)] 11)) tgt := by
    intro tgt kk
    refine pre6 tgt ?_
    refine st7 _ ?_
    show Steps p.tables e below (T7.setTop (mkF m 14 #[.val (.ref a), .val (.long q1), .second, .val (.long q2), .second, .val (.long q3), .second, .val (.long q4), .second, .val (.long q5), .second] [])) _
    refine XS.aloadN X7.here hx rfl (hb hby d1_14) rfl rfl ?_
    show Steps p.tables e below (T7.setTop (mkF m 15 #[.val (.ref a), .val (.long q1), .second, .val (.long q2), .second, .val (.long q3), .second, .val (.long q4), .second, .val (.long q5), .second] [(.ref a)])) _
    refine XS.lload X7.here hx rfl (hb hby d1_15) rfl ?_
    show Steps p.tables e below (T7.setTop (mkF m 17 #[.val (.ref a), .val (.long q1), .second, .val (.long q2), .second, .val (.long q3), .second, .val (.long q4), .second, .val (.long q5), .second] [(.long q3), (.ref a)])) _
    exact kk
  obtain ⟨T10, h10, X10, e10, W10, st10⟩ := putF X7 hx hZ hown (host := "") (Or.inl (hw _ (List.mem_of_getElem? (i := 18) rfl))) Via.refl e7 F_malformedTransactions E_a (Or.inr ⟨(hw _ (List.mem_of_getElem? (i := 19) rfl)), rfl, hnm⟩) (hw _ (List.mem_of_getElem? (i := 1) rfl)) (ty := .long) (by decide) rfl rfl (g := (mkF m 17 #[.val (.ref a), .val (.long q1), .second, .val (.long q2), .second, .val (.long q3), .second, .val (.long q4), .second, .val (.long q5), .second] [(.long q3), (.ref a)])) rfl rfl (hb hby d1_17)
  have N10 := Fr.snoc X10 N7 g_a
  have Fq10 : Fld Z h10 a "com/example/keelbook/keelbook/store/Audit$Summary" "malformedTransactions" "J" (.long q3) := F_malformedTransactions.same W10
  have E_a : Exa Z h10 a "com/example/keelbook/keelbook/store/Audit$Summary" := E_a.wr W10
  have F_accounts : Fld Z h10 a "com/example/keelbook/keelbook/store/Audit$Summary" "accounts" "J" (.long (0 : Int64)) := F_accounts.other W10 (Or.inr (slot_ne (Or.inr (hw _ (List.mem_of_getElem? (i := 21) rfl))) (Or.inr (hw _ (List.mem_of_getElem? (i := 19) rfl))) (by decide) (t := .long) (t' := .long) (by decide) (by decide)))
  have F_balanceMismatches : Fld Z h10 a "com/example/keelbook/keelbook/store/Audit$Summary" "balanceMismatches" "J" (.long (0 : Int64)) := F_balanceMismatches.other W10 (Or.inr (slot_ne (Or.inr (hw _ (List.mem_of_getElem? (i := 23) rfl))) (Or.inr (hw _ (List.mem_of_getElem? (i := 19) rfl))) (by decide) (t := .long) (t' := .long) (by decide) (by decide)))
  have F_transactions : Fld Z h10 a "com/example/keelbook/keelbook/store/Audit$Summary" "transactions" "J" (.long q1) := F_transactions.other W10 (Or.inr (slot_ne (Or.inr (hw _ (List.mem_of_getElem? (i := 15) rfl))) (Or.inr (hw _ (List.mem_of_getElem? (i := 19) rfl))) (by decide) (t := .long) (t' := .long) (by decide) (by decide)))
  have F_unbalancedTransactions : Fld Z h10 a "com/example/keelbook/keelbook/store/Audit$Summary" "unbalancedTransactions" "J" (.long q2) := F_unbalancedTransactions.other W10 (Or.inr (slot_ne (Or.inr (hw _ (List.mem_of_getElem? (i := 17) rfl))) (Or.inr (hw _ (List.mem_of_getElem? (i := 19) rfl))) (by decide) (t := .long) (t' := .long) (by decide) (by decide)))
  have Zs11 : n0 ≤ h10.size := Nat.le_trans Zs8 (Keep.of_wr W10).1
  have KC11 : Keep h0 h10 [a] := KC8.wr W10 (Or.inl (List.mem_of_getElem? (i := 0) rfl))
  have F_malformedTransactions := Fq10
  have pre12 : ∀ tgt, Steps p.tables e below (T10.setTop (mkF m 23 #[.val (.ref a), .val (.long q1), .second, .val (.long q2), .second, .val (.long q3), .second, .val (.long q4), .second, .val (.long q5), .second] [(.long q4), (.ref a)])) tgt → Steps p.tables e below (s₁.setTop (entryFrame m #[(.ref a), (.long q1), (.long q2), (.long q3), (.long q4), (.long q5)] 11)) tgt := by
    intro tgt kk
    refine pre9 tgt ?_
    refine st10 _ ?_
    show Steps p.tables e below (T10.setTop (mkF m 20 #[.val (.ref a), .val (.long q1), .second, .val (.long q2), .second, .val (.long q3), .second, .val (.long q4), .second, .val (.long q5), .second] [])) _
    refine XS.aloadN X10.here hx rfl (hb hby d1_20) rfl rfl ?_
    show Steps p.tables e below (T10.setTop (mkF m 21 #[.val (.ref a), .val (.long q1), .second, .val (.long q2), .second, .val (.long q3), .second, .val (.long q4), .second, .val (.long q5), .second] [(.ref a)])) _
    refine XS.lload X10.here hx rfl (hb hby d1_21) rfl ?_
    show Steps p.tables e below (T10.setTop (mkF m 23 #[.val (.ref a), .val (.long q1), .second, .val (.long q2), .second, .val (.long q3), .second, .val (.long q4), .second, .val (.long q5), .second] [(.long q4), (.ref a)])) _
    exact kk
  obtain ⟨T13, h13, X13, e13, W13, st13⟩ := putF X10 hx hZ hown (host := "") (Or.inl (hw _ (List.mem_of_getElem? (i := 20) rfl))) Via.refl e10 F_accounts E_a (Or.inr ⟨(hw _ (List.mem_of_getElem? (i := 21) rfl)), rfl, hnm⟩) (hw _ (List.mem_of_getElem? (i := 1) rfl)) (ty := .long) (by decide) rfl rfl (g := (mkF m 23 #[.val (.ref a), .val (.long q1), .second, .val (.long q2), .second, .val (.long q3), .second, .val (.long q4), .second, .val (.long q5), .second] [(.long q4), (.ref a)])) rfl rfl (hb hby d1_23)
  have N13 := Fr.snoc X13 N10 g_a
  have Fq13 : Fld Z h13 a "com/example/keelbook/keelbook/store/Audit$Summary" "accounts" "J" (.long q4) := F_accounts.same W13
  have E_a : Exa Z h13 a "com/example/keelbook/keelbook/store/Audit$Summary" := E_a.wr W13
  have F_balanceMismatches : Fld Z h13 a "com/example/keelbook/keelbook/store/Audit$Summary" "balanceMismatches" "J" (.long (0 : Int64)) := F_balanceMismatches.other W13 (Or.inr (slot_ne (Or.inr (hw _ (List.mem_of_getElem? (i := 23) rfl))) (Or.inr (hw _ (List.mem_of_getElem? (i := 21) rfl))) (by decide) (t := .long) (t' := .long) (by decide) (by decide)))
  have F_transactions : Fld Z h13 a "com/example/keelbook/keelbook/store/Audit$Summary" "transactions" "J" (.long q1) := F_transactions.other W13 (Or.inr (slot_ne (Or.inr (hw _ (List.mem_of_getElem? (i := 15) rfl))) (Or.inr (hw _ (List.mem_of_getElem? (i := 21) rfl))) (by decide) (t := .long) (t' := .long) (by decide) (by decide)))
  have F_unbalancedTransactions : Fld Z h13 a "com/example/keelbook/keelbook/store/Audit$Summary" "unbalancedTransactions" "J" (.long q2) := F_unbalancedTransactions.other W13 (Or.inr (slot_ne (Or.inr (hw _ (List.mem_of_getElem? (i := 17) rfl))) (Or.inr (hw _ (List.mem_of_getElem? (i := 21) rfl))) (by decide) (t := .long) (t' := .long) (by decide) (by decide)))
  have F_malformedTransactions : Fld Z h13 a "com/example/keelbook/keelbook/store/Audit$Summary" "malformedTransactions" "J" (.long q3) := F_malformedTransactions.other W13 (Or.inr (slot_ne (Or.inr (hw _ (List.mem_of_getElem? (i := 19) rfl))) (Or.inr (hw _ (List.mem_of_getElem? (i := 21) rfl))) (by decide) (t := .long) (t' := .long) (by decide) (by decide)))
  have Zs14 : n0 ≤ h13.size := Nat.le_trans Zs11 (Keep.of_wr W13).1
  have KC14 : Keep h0 h13 [a] := KC11.wr W13 (Or.inl (List.mem_of_getElem? (i := 0) rfl))
  have F_accounts := Fq13
  have pre15 : ∀ tgt, Steps p.tables e below (T13.setTop (mkF m 29 #[.val (.ref a), .val (.long q1), .second, .val (.long q2), .second, .val (.long q3), .second, .val (.long q4), .second, .val (.long q5), .second] [(.long q5), (.ref a)])) tgt → Steps p.tables e below (s₁.setTop (entryFrame m #[(.ref a), (.long q1), (.long q2), (.long q3), (.long q4), (.long q5)] 11)) tgt := by
    intro tgt kk
    refine pre12 tgt ?_
    refine st13 _ ?_
    show Steps p.tables e below (T13.setTop (mkF m 26 #[.val (.ref a), .val (.long q1), .second, .val (.long q2), .second, .val (.long q3), .second, .val (.long q4), .second, .val (.long q5), .second] [])) _
    refine XS.aloadN X13.here hx rfl (hb hby d1_26) rfl rfl ?_
    show Steps p.tables e below (T13.setTop (mkF m 27 #[.val (.ref a), .val (.long q1), .second, .val (.long q2), .second, .val (.long q3), .second, .val (.long q4), .second, .val (.long q5), .second] [(.ref a)])) _
    refine XS.lload X13.here hx rfl (hb hby d1_27) rfl ?_
    show Steps p.tables e below (T13.setTop (mkF m 29 #[.val (.ref a), .val (.long q1), .second, .val (.long q2), .second, .val (.long q3), .second, .val (.long q4), .second, .val (.long q5), .second] [(.long q5), (.ref a)])) _
    exact kk
  obtain ⟨T16, h16, X16, e16, W16, st16⟩ := putF X13 hx hZ hown (host := "") (Or.inl (hw _ (List.mem_of_getElem? (i := 22) rfl))) Via.refl e13 F_balanceMismatches E_a (Or.inr ⟨(hw _ (List.mem_of_getElem? (i := 23) rfl)), rfl, hnm⟩) (hw _ (List.mem_of_getElem? (i := 1) rfl)) (ty := .long) (by decide) rfl rfl (g := (mkF m 29 #[.val (.ref a), .val (.long q1), .second, .val (.long q2), .second, .val (.long q3), .second, .val (.long q4), .second, .val (.long q5), .second] [(.long q5), (.ref a)])) rfl rfl (hb hby d1_29)
  have N16 := Fr.snoc X16 N13 g_a
  have Fq16 : Fld Z h16 a "com/example/keelbook/keelbook/store/Audit$Summary" "balanceMismatches" "J" (.long q5) := F_balanceMismatches.same W16
  have E_a : Exa Z h16 a "com/example/keelbook/keelbook/store/Audit$Summary" := E_a.wr W16
  have F_transactions : Fld Z h16 a "com/example/keelbook/keelbook/store/Audit$Summary" "transactions" "J" (.long q1) := F_transactions.other W16 (Or.inr (slot_ne (Or.inr (hw _ (List.mem_of_getElem? (i := 15) rfl))) (Or.inr (hw _ (List.mem_of_getElem? (i := 23) rfl))) (by decide) (t := .long) (t' := .long) (by decide) (by decide)))
  have F_unbalancedTransactions : Fld Z h16 a "com/example/keelbook/keelbook/store/Audit$Summary" "unbalancedTransactions" "J" (.long q2) := F_unbalancedTransactions.other W16 (Or.inr (slot_ne (Or.inr (hw _ (List.mem_of_getElem? (i := 17) rfl))) (Or.inr (hw _ (List.mem_of_getElem? (i := 23) rfl))) (by decide) (t := .long) (t' := .long) (by decide) (by decide)))
  have F_malformedTransactions : Fld Z h16 a "com/example/keelbook/keelbook/store/Audit$Summary" "malformedTransactions" "J" (.long q3) := F_malformedTransactions.other W16 (Or.inr (slot_ne (Or.inr (hw _ (List.mem_of_getElem? (i := 19) rfl))) (Or.inr (hw _ (List.mem_of_getElem? (i := 23) rfl))) (by decide) (t := .long) (t' := .long) (by decide) (by decide)))
  have F_accounts : Fld Z h16 a "com/example/keelbook/keelbook/store/Audit$Summary" "accounts" "J" (.long q4) := F_accounts.other W16 (Or.inr (slot_ne (Or.inr (hw _ (List.mem_of_getElem? (i := 21) rfl))) (Or.inr (hw _ (List.mem_of_getElem? (i := 23) rfl))) (by decide) (t := .long) (t' := .long) (by decide) (by decide)))
  have Zs17 : n0 ≤ h16.size := Nat.le_trans Zs14 (Keep.of_wr W16).1
  have KC17 : Keep h0 h16 [a] := KC14.wr W16 (Or.inl (List.mem_of_getElem? (i := 0) rfl))
  have F_balanceMismatches := Fq16
  obtain ⟨fs, hr, hrun, hended, hW, hsame⟩ := X16.leave (v := none) (fun _ => rfl)
  refine ⟨_, _, pre15 _ ?_, hrun, hended, _, _, rfl, ?_, ⟨_, rfl⟩, hW, hsame.mono (by decide) (by decide)⟩
  · skip
    refine st16 _ ?_
    show Steps p.tables e below (T16.setTop (mkF m 32 #[.val (.ref a), .val (.long q1), .second, .val (.long q2), .second, .val (.long q3), .second, .val (.long q4), .second, .val (.long q5), .second] [])) _
    exact X16.returnOut hx Bd.returns (hb hby d1_32) hr
  · show Q1 Z a q1 q2 q3 q4 q5 h0 n0 _ T16.heap _
    rw [e16]
    exact ⟨rfl, N16, KC17, F_transactions, F_unbalancedTransactions, F_malformedTransactions, F_accounts, F_balanceMismatches⟩
theorem d4_0 : decode prog_29_method_2_code 0 = .ok (.aload_n 0, 1) := by decide +kernel
theorem d4_1 : decode prog_29_method_2_code 1 = .ok (.getfield 13, 3) := by decide +kernel
theorem d4_4 : decode prog_29_method_2_code 4 = .ok (.lconst 0, 1) := by decide +kernel
theorem d4_5 : decode prog_29_method_2_code 5 = .ok (.lcmp, 1) := by decide +kernel
theorem d4_6 : decode prog_29_method_2_code 6 = .ok (.ifCond .ne 25, 3) := by decide +kernel
theorem d4_9 : decode prog_29_method_2_code 9 = .ok (.aload_n 0, 1) := by decide +kernel
theorem d4_10 : decode prog_29_method_2_code 10 = .ok (.getfield 16, 3) := by decide +kernel
theorem d4_13 : decode prog_29_method_2_code 13 = .ok (.lconst 0, 1) := by decide +kernel
theorem d4_14 : decode prog_29_method_2_code 14 = .ok (.lcmp, 1) := by decide +kernel
theorem d4_15 : decode prog_29_method_2_code 15 = .ok (.ifCond .ne 16, 3) := by decide +kernel
theorem d4_18 : decode prog_29_method_2_code 18 = .ok (.aload_n 0, 1) := by decide +kernel
theorem d4_19 : decode prog_29_method_2_code 19 = .ok (.getfield 22, 3) := by decide +kernel
theorem d4_22 : decode prog_29_method_2_code 22 = .ok (.lconst 0, 1) := by decide +kernel
theorem d4_23 : decode prog_29_method_2_code 23 = .ok (.lcmp, 1) := by decide +kernel
theorem d4_24 : decode prog_29_method_2_code 24 = .ok (.ifCond .ne 7, 3) := by decide +kernel
theorem d4_27 : decode prog_29_method_2_code 27 = .ok (.iconst 1, 1) := by decide +kernel
theorem d4_28 : decode prog_29_method_2_code 28 = .ok (.goto 4, 3) := by decide +kernel
theorem d4_31 : decode prog_29_method_2_code 31 = .ok (.iconst 0, 1) := by decide +kernel
theorem d4_32 : decode prog_29_method_2_code 32 = .ok (.ireturn, 1) := by decide +kernel
theorem pn_4 : plainName "com/example/keelbook/keelbook/store/Audit$Summary" = true := by first | (simp [plainName, overriddenIn]; done) | decide +kernel
theorem ef_rm4 (m : MethodId) (x0 : Addr) : entryFrame m #[(.ref x0)] 1 = mkF m 0 #[.val (.ref x0)] [] := by first | (simp [entryFrame, mkF, argsToLocals, Value.category]; done) | rfl
def Q4 (Z : State) (a : Addr) (u : Int64) (m1 : Int64) (b : Int64) (h0 : Heap) (n0 : Nat) (v : Option Value) (h : Heap) (L : List Loc) : Prop := v = some (.int (bI ((u = (0 : Int64)) ∧ ((m1 = (0 : Int64)) ∧ (b = (0 : Int64)))))) ∧ Fr n0 L ∧ h = h0
set_option maxRecDepth 65536 in
set_option maxHeartbeats 40000000 in
theorem rm4 (l : Launch) (Z : State) (a0 : Array Value) (hw : ∀ d ∈ tables_1, d.before a0 Z = true) (ws : List Jvm.Cond) (a : Addr) (u : Int64) (m1 : Int64) (b : Int64) (h0 : Heap) (n0 : Nat) (Z0 : n0 ≤ h0.size) (F_0 : Fld Z h0 a "com/example/keelbook/keelbook/store/Audit$Summary" "unbalancedTransactions" "J" (.long u)) (F_1 : Fld Z h0 a "com/example/keelbook/keelbook/store/Audit$Summary" "malformedTransactions" "J" (.long m1)) (F_2 : Fld Z h0 a "com/example/keelbook/keelbook/store/Audit$Summary" "balanceMismatches" "J" (.long b)) :
    MetFree l (⟨"com/example/keelbook/keelbook/store/Audit$Summary", "ok", "()Z"⟩ : MethodName) (head1 (Jvm.Cond.code (⟨"com/example/keelbook/keelbook/store/Audit$Summary", "ok", "()Z"⟩ : MethodName) prog_29_method_2_code 1 (some .boolean) :: ws) ({ frames := 0, cells := 0, slots := 0, locals := 0 } : Room)) (fun ar UU => ar = #[(.ref a)] ∧ Z.Warmed39 UU.vm ∧ UU.heap = h0) (fun _ _ _ _ _ => True) (fun _ UU oo UU' => ∃ vv LL, oo = .returned vv ∧ Q4 Z a u m1 b h0 n0 vv UU'.heap LL ∧ FrameEnd UU oo UU' LL ({ frames := 0, cells := 0, slots := 0, locals := 0 } : Room).cells ({ frames := 0, cells := 0, slots := 0, locals := 0 } : Room).slots) := by
  refine MetFree.of_bodySF (plainFor_of_name pn_4) hisR ?_
  intro p e s m args below meth c s₁ Bd hml0 hP hK
  obtain ⟨rfl, hZ, hh⟩ := hP
  have hx := Bd.exec
  have hby := Bd.bytes
  have hml : c.maxLocals = 1 := hml0
  have hown : s.vm.findClass "com/example/keelbook/keelbook/store/Audit$Summary" = some m.cls := findClass_of_methodNamed Bd.named
  have hnm := (name_of_methodNamed Bd.named Bd.method).1
  have X0 : Stand p l e ({ frames := 0, cells := 0, slots := 0, locals := 0 } : Room) s m #[(.ref a)] below meth c s₁ [] 0 0 := Stand.of_body Bd
  have e0 : s₁.heap = h0 := by rw [← hh, Bd.state]; rfl
  have N0 := Fr.nil n0
  have KC0 : Keep h0 h0 [] := Keep.refl h0 []
  have pre0 : ∀ tgt, Steps p.tables e below (s₁.setTop (mkF m 0 #[.val (.ref a)] [])) tgt → Steps p.tables e below (s₁.setTop (entryFrame m #[(.ref a)] 1)) tgt := fun tgt kk => castTop (ef_rm4 m (a)) kk
  have pre1 : ∀ tgt, Steps p.tables e below (s₁.setTop (mkF m 1 #[.val (.ref a)] [(.ref a)])) tgt → Steps p.tables e below (s₁.setTop (entryFrame m #[(.ref a)] 1)) tgt := by
    intro tgt kk
    refine pre0 tgt ?_
    refine XS.aloadN X0.here hx rfl (hb hby d4_0) rfl rfl ?_
    show Steps p.tables e below (s₁.setTop (mkF m 1 #[.val (.ref a)] [(.ref a)])) _
    exact kk
  obtain ⟨T2, X2, e2, st2⟩ := getF X0 hx hZ hown (host := "") (Or.inl (hw _ (List.mem_of_getElem? (i := 16) rfl))) Via.refl e0 F_0 (g := (mkF m 1 #[.val (.ref a)] [(.ref a)])) rfl rfl (hb hby d4_1)
  have pre3 : ∀ tgt, Steps p.tables e below (T2.setTop (mkF m 6 #[.val (.ref a)] [(.int (lcmpW u (0 : Int64)))])) tgt → Steps p.tables e below (s₁.setTop (entryFrame m #[(.ref a)] 1)) tgt := by
    intro tgt kk
    refine pre1 tgt ?_
    refine st2 _ ?_
    show Steps p.tables e below (T2.setTop (mkF m 4 #[.val (.ref a)] [(.long u)])) _
    refine XS.lconst X2.here hx rfl (hb hby d4_4) ?_
    show Steps p.tables e below (T2.setTop (mkF m 5 #[.val (.ref a)] [(.long (0 : Int64)), (.long u)])) _
    refine XS.lcmp X2.here hx rfl (hb hby d4_5) rfl ?_
    show Steps p.tables e below (T2.setTop (mkF m 6 #[.val (.ref a)] [(.int (lcmpW u (0 : Int64)))])) _
    exact kk
  obtain ⟨T13, lo13, X13, N13, e13, pre13⟩ : ∃ (T' : State) (lo : List Loc), Stand p l e ({ frames := 0, cells := 0, slots := 0, locals := 0 } : Room) s m #[(.ref a)] below meth c T' lo 0 0 ∧ Fr n0 lo ∧ T'.heap = h0 ∧ ∀ tgt, Steps p.tables e below (T'.setTop (mkF m 32 #[.val (.ref a)] [(.int (bI ((u = (0 : Int64)) ∧ ((m1 = (0 : Int64)) ∧ (b = (0 : Int64))))))])) tgt → Steps p.tables e below (s₁.setTop (entryFrame m #[(.ref a)] 1)) tgt := by
    by_cases hc6_4 : u = (0 : Int64)
    · skip
      have pre5 : ∀ tgt, Steps p.tables e below (T2.setTop (mkF m 10 #[.val (.ref a)] [(.ref a)])) tgt → Steps p.tables e below (s₁.setTop (entryFrame m #[(.ref a)] 1)) tgt := by
        intro tgt kk
        refine pre3 tgt ?_
        refine XS.ifNo X2.here hx rfl (hb hby d4_6) rfl (XT.ll_ne_f hc6_4) ?_
        show Steps p.tables e below (T2.setTop (mkF m 9 #[.val (.ref a)] [])) _
        refine XS.aloadN X2.here hx rfl (hb hby d4_9) rfl rfl ?_
        show Steps p.tables e below (T2.setTop (mkF m 10 #[.val (.ref a)] [(.ref a)])) _
        exact kk
      obtain ⟨T6, X6, e6, st6⟩ := getF X2 hx hZ hown (host := "") (Or.inl (hw _ (List.mem_of_getElem? (i := 18) rfl))) Via.refl e2 F_1 (g := (mkF m 10 #[.val (.ref a)] [(.ref a)])) rfl rfl (hb hby d4_10)
      have pre7 : ∀ tgt, Steps p.tables e below (T6.setTop (mkF m 15 #[.val (.ref a)] [(.int (lcmpW m1 (0 : Int64)))])) tgt → Steps p.tables e below (s₁.setTop (entryFrame m #[(.ref a)] 1)) tgt := by
        intro tgt kk
        refine pre5 tgt ?_
        refine st6 _ ?_
        show Steps p.tables e below (T6.setTop (mkF m 13 #[.val (.ref a)] [(.long m1)])) _
        refine XS.lconst X6.here hx rfl (hb hby d4_13) ?_
        show Steps p.tables e below (T6.setTop (mkF m 14 #[.val (.ref a)] [(.long (0 : Int64)), (.long m1)])) _
        refine XS.lcmp X6.here hx rfl (hb hby d4_14) rfl ?_
        show Steps p.tables e below (T6.setTop (mkF m 15 #[.val (.ref a)] [(.int (lcmpW m1 (0 : Int64)))])) _
        exact kk
      by_cases hc15_8 : m1 = (0 : Int64)
      · skip
        have pre9 : ∀ tgt, Steps p.tables e below (T6.setTop (mkF m 19 #[.val (.ref a)] [(.ref a)])) tgt → Steps p.tables e below (s₁.setTop (entryFrame m #[(.ref a)] 1)) tgt := by
          intro tgt kk
          refine pre7 tgt ?_
          refine XS.ifNo X6.here hx rfl (hb hby d4_15) rfl (XT.ll_ne_f hc15_8) ?_
          show Steps p.tables e below (T6.setTop (mkF m 18 #[.val (.ref a)] [])) _
          refine XS.aloadN X6.here hx rfl (hb hby d4_18) rfl rfl ?_
          show Steps p.tables e below (T6.setTop (mkF m 19 #[.val (.ref a)] [(.ref a)])) _
          exact kk
        obtain ⟨T10, X10, e10, st10⟩ := getF X6 hx hZ hown (host := "") (Or.inl (hw _ (List.mem_of_getElem? (i := 22) rfl))) Via.refl e6 F_2 (g := (mkF m 19 #[.val (.ref a)] [(.ref a)])) rfl rfl (hb hby d4_19)
        have pre11 : ∀ tgt, Steps p.tables e below (T10.setTop (mkF m 24 #[.val (.ref a)] [(.int (lcmpW b (0 : Int64)))])) tgt → Steps p.tables e below (s₁.setTop (entryFrame m #[(.ref a)] 1)) tgt := by
          intro tgt kk
          refine pre9 tgt ?_
          refine st10 _ ?_
          show Steps p.tables e below (T10.setTop (mkF m 22 #[.val (.ref a)] [(.long b)])) _
          refine XS.lconst X10.here hx rfl (hb hby d4_22) ?_
          show Steps p.tables e below (T10.setTop (mkF m 23 #[.val (.ref a)] [(.long (0 : Int64)), (.long b)])) _
          refine XS.lcmp X10.here hx rfl (hb hby d4_23) rfl ?_
          show Steps p.tables e below (T10.setTop (mkF m 24 #[.val (.ref a)] [(.int (lcmpW b (0 : Int64)))])) _
          exact kk
        by_cases hc24_12 : b = (0 : Int64)
        · skip
          refine ⟨T10, _, X10, N0, e10, fun tgt kk => ?_⟩
          have kq14 : ((.int (bI ((u = (0 : Int64)) ∧ ((m1 = (0 : Int64)) ∧ (b = (0 : Int64)))))) : Value) = (.int (1 : Int32)) := ((congrArg Value.int (bI_iff (and_iff_right hc6_4))).trans ((congrArg Value.int (bI_iff (and_iff_right hc15_8))).trans (congrArg Value.int (bI_t hc24_12))))
          rw [kq14] at kk
          refine pre11 tgt ?_
          refine XS.ifNo X10.here hx rfl (hb hby d4_24) rfl (XT.ll_ne_f hc24_12) ?_
          show Steps p.tables e below (T10.setTop (mkF m 27 #[.val (.ref a)] [])) _
          refine XS.iconst X10.here hx rfl (hb hby d4_27) ?_
          show Steps p.tables e below (T10.setTop (mkF m 28 #[.val (.ref a)] [(.int (1 : Int32))])) _
          refine XS.goto X10.here hx rfl (pc0 := 28) (pc' := 32) rfl (hb hby d4_28) (by decide) (by decide) ?_
          show Steps p.tables e below (T10.setTop (mkF m 32 #[.val (.ref a)] [(.int (1 : Int32))])) _
          exact kk
        · skip
          refine ⟨T10, _, X10, N0, e10, fun tgt kk => ?_⟩
          have kq15 : ((.int (bI ((u = (0 : Int64)) ∧ ((m1 = (0 : Int64)) ∧ (b = (0 : Int64)))))) : Value) = (.int (0 : Int32)) := ((congrArg Value.int (bI_iff (and_iff_right hc6_4))).trans ((congrArg Value.int (bI_iff (and_iff_right hc15_8))).trans (congrArg Value.int (bI_f hc24_12))))
          rw [kq15] at kk
          refine pre11 tgt ?_
          refine XS.ifYes X10.here hx rfl (pc0 := 24) (pc' := 31) rfl (hb hby d4_24) rfl (XT.ll_ne_t hc24_12) (by decide) (by decide) ?_
          show Steps p.tables e below (T10.setTop (mkF m 31 #[.val (.ref a)] [])) _
          refine XS.iconst X10.here hx rfl (hb hby d4_31) ?_
          show Steps p.tables e below (T10.setTop (mkF m 32 #[.val (.ref a)] [(.int (0 : Int32))])) _
          exact kk
      · skip
        refine ⟨T6, _, X6, N0, e6, fun tgt kk => ?_⟩
        have kq16 : ((.int (bI ((u = (0 : Int64)) ∧ ((m1 = (0 : Int64)) ∧ (b = (0 : Int64)))))) : Value) = (.int (0 : Int32)) := ((congrArg Value.int (bI_iff (and_iff_right hc6_4))).trans (congrArg Value.int (bI_f (fun q => hc15_8 q.1))))
        rw [kq16] at kk
        refine pre7 tgt ?_
        refine XS.ifYes X6.here hx rfl (pc0 := 15) (pc' := 31) rfl (hb hby d4_15) rfl (XT.ll_ne_t hc15_8) (by decide) (by decide) ?_
        show Steps p.tables e below (T6.setTop (mkF m 31 #[.val (.ref a)] [])) _
        refine XS.iconst X6.here hx rfl (hb hby d4_31) ?_
        show Steps p.tables e below (T6.setTop (mkF m 32 #[.val (.ref a)] [(.int (0 : Int32))])) _
        exact kk
    · skip
      refine ⟨T2, _, X2, N0, e2, fun tgt kk => ?_⟩
      have kq17 : ((.int (bI ((u = (0 : Int64)) ∧ ((m1 = (0 : Int64)) ∧ (b = (0 : Int64)))))) : Value) = (.int (0 : Int32)) := (congrArg Value.int (bI_f (fun q => hc6_4 q.1)))
      rw [kq17] at kk
      refine pre3 tgt ?_
      refine XS.ifYes X2.here hx rfl (pc0 := 6) (pc' := 31) rfl (hb hby d4_6) rfl (XT.ll_ne_t hc6_4) (by decide) (by decide) ?_
      show Steps p.tables e below (T2.setTop (mkF m 31 #[.val (.ref a)] [])) _
      refine XS.iconst X2.here hx rfl (hb hby d4_31) ?_
      show Steps p.tables e below (T2.setTop (mkF m 32 #[.val (.ref a)] [(.int (0 : Int32))])) _
      exact kk
  obtain ⟨fs, hr, hrun, hended, hW, hsame⟩ := X13.leave (v := some (.int (nar .boolean (bI ((u = (0 : Int64)) ∧ ((m1 = (0 : Int64)) ∧ (b = (0 : Int64)))))))) (fun h => by rw [Bd.returns] at h; cases h)
  refine ⟨_, _, pre13 _ ?_, hrun, hended, _, _, rfl, ?_, ⟨_, rfl⟩, hW, hsame.mono (by decide) (by decide)⟩
  · skip
    exact retN X13 hx (t := .boolean) Bd.returns (by simp) (hb hby d4_32) hr
  · show Q4 Z a u m1 b h0 n0 _ T13.heap _
    rw [e13]
    exact ⟨bI_ret, N13, rfl⟩
theorem pn_0 : plainName "com/example/keelbook/keelbook/store/SummaryOkPinLaw" = true := by first | (simp [plainName, overriddenIn]; done) | decide +kernel
theorem pd__JJJJJ_V : parseMethodDescriptor "(JJJJJ)V" = some ⟨[.long, .long, .long, .long, .long], none⟩ := by decide +kernel
theorem pd___Z : parseMethodDescriptor "()Z" = some ⟨[], some .boolean⟩ := by decide +kernel
theorem ef_rm0 (m : MethodId) (x0 : Int64) (x1 : Int64) (x2 : Int64) (x3 : Int64) (x4 : Int64) (x5 : Int32) : entryFrame m #[(.long x0), (.long x1), (.long x2), (.long x3), (.long x4), (.int x5)] maxLocals = mkF m 0 #[.val (.long x0), .second, .val (.long x1), .second, .val (.long x2), .second, .val (.long x3), .second, .val (.long x4), .second, .val (.int x5), .unset, .unset, .unset, .unset, .unset, .unset, .unset, .unset, .unset] [] := by first | (simp [entryFrame, mkF, argsToLocals, Value.category, maxLocals]; done) | rfl
def Q0 (Z : State) (q1 : Int64) (q2 : Int64) (q3 : Int64) (q4 : Int64) (q5 : Int64) (p6 : Int32) (h0 : Heap) (n0 : Nat) (v : Option Value) (h : Heap) (L : List Loc) : Prop := v = some (.int (1 : Int32)) ∧ Fr n0 L
set_option maxRecDepth 65536 in
set_option maxHeartbeats 40000000 in
theorem rm0 (l : Launch) (Z : State) (a0 : Array Value) (hw : ∀ d ∈ tables_1, d.before a0 Z = true) (ws : List Jvm.Cond) (q1 : Int64) (q2 : Int64) (q3 : Int64) (q4 : Int64) (q5 : Int64) (p6 : Int32) (h0 : Heap) (n0 : Nat) (Z0 : n0 ≤ h0.size) :
    MetFree l x (head1 (Jvm.Cond.code x code maxLocals ret :: ws) room_1) (fun ar UU => ar = #[(.long q1), (.long q2), (.long q3), (.long q4), (.long q5), (.int p6)] ∧ Z.Warmed39 UU.vm ∧ UU.heap = h0) (fun _ _ _ _ _ => True) (fun _ UU oo UU' => ∃ vv LL, oo = .returned vv ∧ Q0 Z q1 q2 q3 q4 q5 p6 h0 n0 vv UU'.heap LL ∧ FrameEnd UU oo UU' LL room_1.cells room_1.slots) := by
  refine MetFree.of_bodySF (plainFor_of_name pn_0) hisR ?_
  intro p e s m args below meth c s₁ Bd hml0 hP hK
  obtain ⟨rfl, hZ, hh⟩ := hP
  have hx := Bd.exec
  have hby := Bd.bytes
  have hml : c.maxLocals = 20 := hml0
  have hown : s.vm.findClass "com/example/keelbook/keelbook/store/SummaryOkPinLaw" = some m.cls := findClass_of_methodNamed Bd.named
  have hnm := (name_of_methodNamed Bd.named Bd.method).1
  have X0 : Stand p l e room_1 s m #[(.long q1), (.long q2), (.long q3), (.long q4), (.long q5), (.int p6)] below meth c s₁ [] 0 0 := Stand.of_body Bd
  have e0 : s₁.heap = h0 := by rw [← hh, Bd.state]; rfl
  have N0 := Fr.nil n0
  have KC0 : Keep h0 h0 [] := Keep.refl h0 []
  have pre0 : ∀ tgt, Steps p.tables e below (s₁.setTop (mkF m 0 #[.val (.long q1), .second, .val (.long q2), .second, .val (.long q3), .second, .val (.long q4), .second, .val (.long q5), .second, .val (.int p6), .unset, .unset, .unset, .unset, .unset, .unset, .unset, .unset, .unset] [])) tgt → Steps p.tables e below (s₁.setTop (entryFrame m #[(.long q1), (.long q2), (.long q3), (.long q4), (.long q5), (.int p6)] maxLocals)) tgt := fun tgt kk => castTop (ef_rm0 m (q1) (q2) (q3) (q4) (q5) (p6)) kk
  have pre1 : ∀ tgt, Steps p.tables e below (s₁.setTop (mkF m 4 #[.val (.long q1), .second, .val (.long q2), .second, .val (.long q3), .second, .val (.long q4), .second, .val (.long q5), .second, .val (.int p6), .unset, .unset, .unset, .unset, .unset, .unset, .unset, .unset, .unset] [(.int (p6 &&& (1 : Int32)))])) tgt → Steps p.tables e below (s₁.setTop (entryFrame m #[(.long q1), (.long q2), (.long q3), (.long q4), (.long q5), (.int p6)] maxLocals)) tgt := by
    intro tgt kk
    refine pre0 tgt ?_
    refine XS.iload X0.here hx rfl (hb hby at_0) rfl ?_
    show Steps p.tables e below (s₁.setTop (mkF m 2 #[.val (.long q1), .second, .val (.long q2), .second, .val (.long q3), .second, .val (.long q4), .second, .val (.long q5), .second, .val (.int p6), .unset, .unset, .unset, .unset, .unset, .unset, .unset, .unset, .unset] [(.int p6)])) _
    refine XS.iconst X0.here hx rfl (hb hby at_2) ?_
    show Steps p.tables e below (s₁.setTop (mkF m 3 #[.val (.long q1), .second, .val (.long q2), .second, .val (.long q3), .second, .val (.long q4), .second, .val (.long q5), .second, .val (.int p6), .unset, .unset, .unset, .unset, .unset, .unset, .unset, .unset, .unset] [(.int (1 : Int32)), (.int p6)])) _
    refine XS.iand X0.here hx rfl (hb hby at_3) rfl ?_
    show Steps p.tables e below (s₁.setTop (mkF m 4 #[.val (.long q1), .second, .val (.long q2), .second, .val (.long q3), .second, .val (.long q4), .second, .val (.long q5), .second, .val (.int p6), .unset, .unset, .unset, .unset, .unset, .unset, .unset, .unset, .unset] [(.int (p6 &&& (1 : Int32)))])) _
    exact kk
  obtain ⟨T3, lo3, X3, N3, e3, pre3⟩ : ∃ (T' : State) (lo : List Loc), Stand p l e room_1 s m #[(.long q1), (.long q2), (.long q3), (.long q4), (.long q5), (.int p6)] below meth c T' lo 0 0 ∧ Fr n0 lo ∧ T'.heap = h0 ∧ ∀ tgt, Steps p.tables e below (T'.setTop (mkF m 12 #[.val (.long q1), .second, .val (.long q2), .second, .val (.long q3), .second, .val (.long q4), .second, .val (.long q5), .second, .val (.int p6), .unset, .unset, .unset, .unset, .unset, .unset, .unset, .unset, .unset] [(.long (if (p6 &&& (1 : Int32)) = (0 : Int32) then q2 else (0 : Int64)))])) tgt → Steps p.tables e below (s₁.setTop (entryFrame m #[(.long q1), (.long q2), (.long q3), (.long q4), (.long q5), (.int p6)] maxLocals)) tgt := by
    by_cases hc4_2 : (p6 &&& (1 : Int32)) = (0 : Int32)
    · skip
      refine ⟨s₁, _, X0, N0, e0, fun tgt kk => ?_⟩
      have kq4 : ((.long (if (p6 &&& (1 : Int32)) = (0 : Int32) then q2 else (0 : Int64))) : Value) = (.long q2) := (congrArg Value.long (if_pos hc4_2))
      rw [kq4] at kk
      refine pre1 tgt ?_
      refine XS.ifYes X0.here hx rfl (pc0 := 4) (pc' := 11) rfl (hb hby at_4) rfl (XT.i0_eq_t hc4_2) (by decide) (by decide) ?_
      show Steps p.tables e below (s₁.setTop (mkF m 11 #[.val (.long q1), .second, .val (.long q2), .second, .val (.long q3), .second, .val (.long q4), .second, .val (.long q5), .second, .val (.int p6), .unset, .unset, .unset, .unset, .unset, .unset, .unset, .unset, .unset] [])) _
      refine XS.lloadN X0.here hx rfl (hb hby at_11) rfl ?_
      show Steps p.tables e below (s₁.setTop (mkF m 12 #[.val (.long q1), .second, .val (.long q2), .second, .val (.long q3), .second, .val (.long q4), .second, .val (.long q5), .second, .val (.int p6), .unset, .unset, .unset, .unset, .unset, .unset, .unset, .unset, .unset] [(.long q2)])) _
      exact kk
    · skip
      refine ⟨s₁, _, X0, N0, e0, fun tgt kk => ?_⟩
      have kq5 : ((.long (if (p6 &&& (1 : Int32)) = (0 : Int32) then q2 else (0 : Int64))) : Value) = (.long (0 : Int64)) := (congrArg Value.long (if_neg hc4_2))
      rw [kq5] at kk
      refine pre1 tgt ?_
      refine XS.ifNo X0.here hx rfl (hb hby at_4) rfl (XT.i0_eq_f hc4_2) ?_
      show Steps p.tables e below (s₁.setTop (mkF m 7 #[.val (.long q1), .second, .val (.long q2), .second, .val (.long q3), .second, .val (.long q4), .second, .val (.long q5), .second, .val (.int p6), .unset, .unset, .unset, .unset, .unset, .unset, .unset, .unset, .unset] [])) _
      refine XS.lconst X0.here hx rfl (hb hby at_7) ?_
      show Steps p.tables e below (s₁.setTop (mkF m 8 #[.val (.long q1), .second, .val (.long q2), .second, .val (.long q3), .second, .val (.long q4), .second, .val (.long q5), .second, .val (.int p6), .unset, .unset, .unset, .unset, .unset, .unset, .unset, .unset, .unset] [(.long (0 : Int64))])) _
      refine XS.goto X0.here hx rfl (pc0 := 8) (pc' := 12) rfl (hb hby at_8) (by decide) (by decide) ?_
      show Steps p.tables e below (s₁.setTop (mkF m 12 #[.val (.long q1), .second, .val (.long q2), .second, .val (.long q3), .second, .val (.long q4), .second, .val (.long q5), .second, .val (.int p6), .unset, .unset, .unset, .unset, .unset, .unset, .unset, .unset, .unset] [(.long (0 : Int64))])) _
      exact kk
  obtain ⟨zj6, hz6⟩ : ∃ z, z = (if (p6 &&& (1 : Int32)) = (0 : Int32) then q2 else (0 : Int64)) := ⟨_, rfl⟩
  rw [← hz6] at pre3
  have pre7 : ∀ tgt, Steps p.tables e below (T3.setTop (mkF m 18 #[.val (.long q1), .second, .val (.long q2), .second, .val (.long q3), .second, .val (.long q4), .second, .val (.long q5), .second, .val (.int p6), .val (.long zj6), .second, .unset, .unset, .unset, .unset, .unset, .unset, .unset] [(.int (p6 &&& (2 : Int32)))])) tgt → Steps p.tables e below (s₁.setTop (entryFrame m #[(.long q1), (.long q2), (.long q3), (.long q4), (.long q5), (.int p6)] maxLocals)) tgt := by
    intro tgt kk
    refine pre3 tgt ?_
    refine XS.lstore X3.here hx rfl (hb hby at_12) rfl (l' := #[.val (.long q1), .second, .val (.long q2), .second, .val (.long q3), .second, .val (.long q4), .second, .val (.long q5), .second, .val (.int p6), .val (.long zj6), .second, .unset, .unset, .unset, .unset, .unset, .unset, .unset]) rfl ?_
    show Steps p.tables e below (T3.setTop (mkF m 14 #[.val (.long q1), .second, .val (.long q2), .second, .val (.long q3), .second, .val (.long q4), .second, .val (.long q5), .second, .val (.int p6), .val (.long zj6), .second, .unset, .unset, .unset, .unset, .unset, .unset, .unset] [])) _
    refine XS.iload X3.here hx rfl (hb hby at_14) rfl ?_
    show Steps p.tables e below (T3.setTop (mkF m 16 #[.val (.long q1), .second, .val (.long q2), .second, .val (.long q3), .second, .val (.long q4), .second, .val (.long q5), .second, .val (.int p6), .val (.long zj6), .second, .unset, .unset, .unset, .unset, .unset, .unset, .unset] [(.int p6)])) _
    refine XS.iconst X3.here hx rfl (hb hby at_16) ?_
    show Steps p.tables e below (T3.setTop (mkF m 17 #[.val (.long q1), .second, .val (.long q2), .second, .val (.long q3), .second, .val (.long q4), .second, .val (.long q5), .second, .val (.int p6), .val (.long zj6), .second, .unset, .unset, .unset, .unset, .unset, .unset, .unset] [(.int (2 : Int32)), (.int p6)])) _
    refine XS.iand X3.here hx rfl (hb hby at_17) rfl ?_
    show Steps p.tables e below (T3.setTop (mkF m 18 #[.val (.long q1), .second, .val (.long q2), .second, .val (.long q3), .second, .val (.long q4), .second, .val (.long q5), .second, .val (.int p6), .val (.long zj6), .second, .unset, .unset, .unset, .unset, .unset, .unset, .unset] [(.int (p6 &&& (2 : Int32)))])) _
    exact kk
  obtain ⟨T9, lo9, X9, N9, e9, pre9⟩ : ∃ (T' : State) (lo : List Loc), Stand p l e room_1 s m #[(.long q1), (.long q2), (.long q3), (.long q4), (.long q5), (.int p6)] below meth c T' lo 0 0 ∧ Fr n0 lo ∧ T'.heap = h0 ∧ ∀ tgt, Steps p.tables e below (T'.setTop (mkF m 27 #[.val (.long q1), .second, .val (.long q2), .second, .val (.long q3), .second, .val (.long q4), .second, .val (.long q5), .second, .val (.int p6), .val (.long zj6), .second, .unset, .unset, .unset, .unset, .unset, .unset, .unset] [(.long (if (p6 &&& (2 : Int32)) = (0 : Int32) then q3 else (0 : Int64)))])) tgt → Steps p.tables e below (s₁.setTop (entryFrame m #[(.long q1), (.long q2), (.long q3), (.long q4), (.long q5), (.int p6)] maxLocals)) tgt := by
    by_cases hc18_8 : (p6 &&& (2 : Int32)) = (0 : Int32)
    · skip
      refine ⟨T3, _, X3, N3, e3, fun tgt kk => ?_⟩
      have kq10 : ((.long (if (p6 &&& (2 : Int32)) = (0 : Int32) then q3 else (0 : Int64))) : Value) = (.long q3) := (congrArg Value.long (if_pos hc18_8))
      rw [kq10] at kk
      refine pre7 tgt ?_
      refine XS.ifYes X3.here hx rfl (pc0 := 18) (pc' := 25) rfl (hb hby at_18) rfl (XT.i0_eq_t hc18_8) (by decide) (by decide) ?_
      show Steps p.tables e below (T3.setTop (mkF m 25 #[.val (.long q1), .second, .val (.long q2), .second, .val (.long q3), .second, .val (.long q4), .second, .val (.long q5), .second, .val (.int p6), .val (.long zj6), .second, .unset, .unset, .unset, .unset, .unset, .unset, .unset] [])) _
      refine XS.lload X3.here hx rfl (hb hby at_25) rfl ?_
      show Steps p.tables e below (T3.setTop (mkF m 27 #[.val (.long q1), .second, .val (.long q2), .second, .val (.long q3), .second, .val (.long q4), .second, .val (.long q5), .second, .val (.int p6), .val (.long zj6), .second, .unset, .unset, .unset, .unset, .unset, .unset, .unset] [(.long q3)])) _
      exact kk
    · skip
      refine ⟨T3, _, X3, N3, e3, fun tgt kk => ?_⟩
      have kq11 : ((.long (if (p6 &&& (2 : Int32)) = (0 : Int32) then q3 else (0 : Int64))) : Value) = (.long (0 : Int64)) := (congrArg Value.long (if_neg hc18_8))
      rw [kq11] at kk
      refine pre7 tgt ?_
      refine XS.ifNo X3.here hx rfl (hb hby at_18) rfl (XT.i0_eq_f hc18_8) ?_
      show Steps p.tables e below (T3.setTop (mkF m 21 #[.val (.long q1), .second, .val (.long q2), .second, .val (.long q3), .second, .val (.long q4), .second, .val (.long q5), .second, .val (.int p6), .val (.long zj6), .second, .unset, .unset, .unset, .unset, .unset, .unset, .unset] [])) _
      refine XS.lconst X3.here hx rfl (hb hby at_21) ?_
      show Steps p.tables e below (T3.setTop (mkF m 22 #[.val (.long q1), .second, .val (.long q2), .second, .val (.long q3), .second, .val (.long q4), .second, .val (.long q5), .second, .val (.int p6), .val (.long zj6), .second, .unset, .unset, .unset, .unset, .unset, .unset, .unset] [(.long (0 : Int64))])) _
      refine XS.goto X3.here hx rfl (pc0 := 22) (pc' := 27) rfl (hb hby at_22) (by decide) (by decide) ?_
      show Steps p.tables e below (T3.setTop (mkF m 27 #[.val (.long q1), .second, .val (.long q2), .second, .val (.long q3), .second, .val (.long q4), .second, .val (.long q5), .second, .val (.int p6), .val (.long zj6), .second, .unset, .unset, .unset, .unset, .unset, .unset, .unset] [(.long (0 : Int64))])) _
      exact kk
  obtain ⟨zj12, hz12⟩ : ∃ z, z = (if (p6 &&& (2 : Int32)) = (0 : Int32) then q3 else (0 : Int64)) := ⟨_, rfl⟩
  rw [← hz12] at pre9
  have pre13 : ∀ tgt, Steps p.tables e below (T9.setTop (mkF m 33 #[.val (.long q1), .second, .val (.long q2), .second, .val (.long q3), .second, .val (.long q4), .second, .val (.long q5), .second, .val (.int p6), .val (.long zj6), .second, .val (.long zj12), .second, .unset, .unset, .unset, .unset, .unset] [(.int (p6 &&& (4 : Int32)))])) tgt → Steps p.tables e below (s₁.setTop (entryFrame m #[(.long q1), (.long q2), (.long q3), (.long q4), (.long q5), (.int p6)] maxLocals)) tgt := by
    intro tgt kk
    refine pre9 tgt ?_
    refine XS.lstore X9.here hx rfl (hb hby at_27) rfl (l' := #[.val (.long q1), .second, .val (.long q2), .second, .val (.long q3), .second, .val (.long q4), .second, .val (.long q5), .second, .val (.int p6), .val (.long zj6), .second, .val (.long zj12), .second, .unset, .unset, .unset, .unset, .unset]) rfl ?_
    show Steps p.tables e below (T9.setTop (mkF m 29 #[.val (.long q1), .second, .val (.long q2), .second, .val (.long q3), .second, .val (.long q4), .second, .val (.long q5), .second, .val (.int p6), .val (.long zj6), .second, .val (.long zj12), .second, .unset, .unset, .unset, .unset, .unset] [])) _
    refine XS.iload X9.here hx rfl (hb hby at_29) rfl ?_
    show Steps p.tables e below (T9.setTop (mkF m 31 #[.val (.long q1), .second, .val (.long q2), .second, .val (.long q3), .second, .val (.long q4), .second, .val (.long q5), .second, .val (.int p6), .val (.long zj6), .second, .val (.long zj12), .second, .unset, .unset, .unset, .unset, .unset] [(.int p6)])) _
    refine XS.iconst X9.here hx rfl (hb hby at_31) ?_
    show Steps p.tables e below (T9.setTop (mkF m 32 #[.val (.long q1), .second, .val (.long q2), .second, .val (.long q3), .second, .val (.long q4), .second, .val (.long q5), .second, .val (.int p6), .val (.long zj6), .second, .val (.long zj12), .second, .unset, .unset, .unset, .unset, .unset] [(.int (4 : Int32)), (.int p6)])) _
    refine XS.iand X9.here hx rfl (hb hby at_32) rfl ?_
    show Steps p.tables e below (T9.setTop (mkF m 33 #[.val (.long q1), .second, .val (.long q2), .second, .val (.long q3), .second, .val (.long q4), .second, .val (.long q5), .second, .val (.int p6), .val (.long zj6), .second, .val (.long zj12), .second, .unset, .unset, .unset, .unset, .unset] [(.int (p6 &&& (4 : Int32)))])) _
    exact kk
  obtain ⟨T15, lo15, X15, N15, e15, pre15⟩ : ∃ (T' : State) (lo : List Loc), Stand p l e room_1 s m #[(.long q1), (.long q2), (.long q3), (.long q4), (.long q5), (.int p6)] below meth c T' lo 0 0 ∧ Fr n0 lo ∧ T'.heap = h0 ∧ ∀ tgt, Steps p.tables e below (T'.setTop (mkF m 42 #[.val (.long q1), .second, .val (.long q2), .second, .val (.long q3), .second, .val (.long q4), .second, .val (.long q5), .second, .val (.int p6), .val (.long zj6), .second, .val (.long zj12), .second, .unset, .unset, .unset, .unset, .unset] [(.long (if (p6 &&& (4 : Int32)) = (0 : Int32) then q5 else (0 : Int64)))])) tgt → Steps p.tables e below (s₁.setTop (entryFrame m #[(.long q1), (.long q2), (.long q3), (.long q4), (.long q5), (.int p6)] maxLocals)) tgt := by
    by_cases hc33_14 : (p6 &&& (4 : Int32)) = (0 : Int32)
    · skip
      refine ⟨T9, _, X9, N9, e9, fun tgt kk => ?_⟩
      have kq16 : ((.long (if (p6 &&& (4 : Int32)) = (0 : Int32) then q5 else (0 : Int64))) : Value) = (.long q5) := (congrArg Value.long (if_pos hc33_14))
      rw [kq16] at kk
      refine pre13 tgt ?_
      refine XS.ifYes X9.here hx rfl (pc0 := 33) (pc' := 40) rfl (hb hby at_33) rfl (XT.i0_eq_t hc33_14) (by decide) (by decide) ?_
      show Steps p.tables e below (T9.setTop (mkF m 40 #[.val (.long q1), .second, .val (.long q2), .second, .val (.long q3), .second, .val (.long q4), .second, .val (.long q5), .second, .val (.int p6), .val (.long zj6), .second, .val (.long zj12), .second, .unset, .unset, .unset, .unset, .unset] [])) _
      refine XS.lload X9.here hx rfl (hb hby at_40) rfl ?_
      show Steps p.tables e below (T9.setTop (mkF m 42 #[.val (.long q1), .second, .val (.long q2), .second, .val (.long q3), .second, .val (.long q4), .second, .val (.long q5), .second, .val (.int p6), .val (.long zj6), .second, .val (.long zj12), .second, .unset, .unset, .unset, .unset, .unset] [(.long q5)])) _
      exact kk
    · skip
      refine ⟨T9, _, X9, N9, e9, fun tgt kk => ?_⟩
      have kq17 : ((.long (if (p6 &&& (4 : Int32)) = (0 : Int32) then q5 else (0 : Int64))) : Value) = (.long (0 : Int64)) := (congrArg Value.long (if_neg hc33_14))
      rw [kq17] at kk
      refine pre13 tgt ?_
      refine XS.ifNo X9.here hx rfl (hb hby at_33) rfl (XT.i0_eq_f hc33_14) ?_
      show Steps p.tables e below (T9.setTop (mkF m 36 #[.val (.long q1), .second, .val (.long q2), .second, .val (.long q3), .second, .val (.long q4), .second, .val (.long q5), .second, .val (.int p6), .val (.long zj6), .second, .val (.long zj12), .second, .unset, .unset, .unset, .unset, .unset] [])) _
      refine XS.lconst X9.here hx rfl (hb hby at_36) ?_
      show Steps p.tables e below (T9.setTop (mkF m 37 #[.val (.long q1), .second, .val (.long q2), .second, .val (.long q3), .second, .val (.long q4), .second, .val (.long q5), .second, .val (.int p6), .val (.long zj6), .second, .val (.long zj12), .second, .unset, .unset, .unset, .unset, .unset] [(.long (0 : Int64))])) _
      refine XS.goto X9.here hx rfl (pc0 := 37) (pc' := 42) rfl (hb hby at_37) (by decide) (by decide) ?_
      show Steps p.tables e below (T9.setTop (mkF m 42 #[.val (.long q1), .second, .val (.long q2), .second, .val (.long q3), .second, .val (.long q4), .second, .val (.long q5), .second, .val (.int p6), .val (.long zj6), .second, .val (.long zj12), .second, .unset, .unset, .unset, .unset, .unset] [(.long (0 : Int64))])) _
      exact kk
  obtain ⟨zj18, hz18⟩ : ∃ z, z = (if (p6 &&& (4 : Int32)) = (0 : Int32) then q5 else (0 : Int64)) := ⟨_, rfl⟩
  rw [← hz18] at pre15
  have pre19 : ∀ tgt, Steps p.tables e below (T15.setTop (mkF m 44 #[.val (.long q1), .second, .val (.long q2), .second, .val (.long q3), .second, .val (.long q4), .second, .val (.long q5), .second, .val (.int p6), .val (.long zj6), .second, .val (.long zj12), .second, .val (.long zj18), .second, .unset, .unset, .unset] [])) tgt → Steps p.tables e below (s₁.setTop (entryFrame m #[(.long q1), (.long q2), (.long q3), (.long q4), (.long q5), (.int p6)] maxLocals)) tgt := by
    intro tgt kk
    refine pre15 tgt ?_
    refine XS.lstore X15.here hx rfl (hb hby at_42) rfl (l' := #[.val (.long q1), .second, .val (.long q2), .second, .val (.long q3), .second, .val (.long q4), .second, .val (.long q5), .second, .val (.int p6), .val (.long zj6), .second, .val (.long zj12), .second, .val (.long zj18), .second, .unset, .unset, .unset]) rfl ?_
    show Steps p.tables e below (T15.setTop (mkF m 44 #[.val (.long q1), .second, .val (.long q2), .second, .val (.long q3), .second, .val (.long q4), .second, .val (.long q5), .second, .val (.int p6), .val (.long zj6), .second, .val (.long zj12), .second, .val (.long zj18), .second, .unset, .unset, .unset] [])) _
    exact kk
  obtain ⟨T20, h20, X20, e20, E20, A20, D20, -, st20⟩ := newO X15 hx hZ hown (hw _ (List.mem_of_getElem? (i := 0) rfl)) (hw _ (List.mem_of_getElem? (i := 1) rfl)) (hw _ (List.mem_of_getElem? (i := 2) rfl)) e15 (g := (mkF m 44 #[.val (.long q1), .second, .val (.long q2), .second, .val (.long q3), .second, .val (.long q4), .second, .val (.long q5), .second, .val (.int p6), .val (.long zj6), .second, .val (.long zj12), .second, .val (.long zj18), .second, .unset, .unset, .unset] [])) rfl (hb hby at_44) (by decide) (by decide)
  obtain ⟨b20, g20⟩ : ∃ z, z = h0.size := ⟨_, rfl⟩
  rw [← g20] at A20 D20 st20
  have gn21 : n0 ≤ b20 := Nat.le_trans Z0 (Nat.le_of_eq g20.symm)
  have sz21 : h0.size ≤ b20 := Nat.le_trans KC0.1 (Nat.le_of_eq g20.symm)
  have Zs22 : n0 ≤ h20.size := Nat.le_trans Z0 E20.1
  have KC22 : Keep h0 h20 [] := KC0.ext E20
  have E_b20 : Exa Z h20 b20 "com/example/keelbook/keelbook/store/Audit$Summary" := A20
  have F_transactions_b20 : Fld Z h20 b20 "com/example/keelbook/keelbook/store/Audit$Summary" "transactions" "J" (.long (0 : Int64)) := D20 (Or.inr (hw _ (List.mem_of_getElem? (i := 15) rfl))) (ty := .long) (by decide)
  have F_unbalancedTransactions_b20 : Fld Z h20 b20 "com/example/keelbook/keelbook/store/Audit$Summary" "unbalancedTransactions" "J" (.long (0 : Int64)) := D20 (Or.inr (hw _ (List.mem_of_getElem? (i := 17) rfl))) (ty := .long) (by decide)
  have F_malformedTransactions_b20 : Fld Z h20 b20 "com/example/keelbook/keelbook/store/Audit$Summary" "malformedTransactions" "J" (.long (0 : Int64)) := D20 (Or.inr (hw _ (List.mem_of_getElem? (i := 19) rfl))) (ty := .long) (by decide)
  have F_accounts_b20 : Fld Z h20 b20 "com/example/keelbook/keelbook/store/Audit$Summary" "accounts" "J" (.long (0 : Int64)) := D20 (Or.inr (hw _ (List.mem_of_getElem? (i := 21) rfl))) (ty := .long) (by decide)
  have F_balanceMismatches_b20 : Fld Z h20 b20 "com/example/keelbook/keelbook/store/Audit$Summary" "balanceMismatches" "J" (.long (0 : Int64)) := D20 (Or.inr (hw _ (List.mem_of_getElem? (i := 23) rfl))) (ty := .long) (by decide)
  have pre23 : ∀ tgt, Steps p.tables e below (T20.setTop (mkF m 57 #[.val (.long q1), .second, .val (.long q2), .second, .val (.long q3), .second, .val (.long q4), .second, .val (.long q5), .second, .val (.int p6), .val (.long zj6), .second, .val (.long zj12), .second, .val (.long zj18), .second, .unset, .unset, .unset] [(.long zj18), (.long q4), (.long zj12), (.long zj6), (.long q1), (.ref b20), (.ref b20)])) tgt → Steps p.tables e below (s₁.setTop (entryFrame m #[(.long q1), (.long q2), (.long q3), (.long q4), (.long q5), (.int p6)] maxLocals)) tgt := by
    intro tgt kk
    refine pre19 tgt ?_
    refine st20 _ ?_
    show Steps p.tables e below (T20.setTop (mkF m 47 #[.val (.long q1), .second, .val (.long q2), .second, .val (.long q3), .second, .val (.long q4), .second, .val (.long q5), .second, .val (.int p6), .val (.long zj6), .second, .val (.long zj12), .second, .val (.long zj18), .second, .unset, .unset, .unset] [(.ref b20)])) _
    refine XS.dup X20.here hx rfl (hb hby at_47) rfl rfl ?_
    show Steps p.tables e below (T20.setTop (mkF m 48 #[.val (.long q1), .second, .val (.long q2), .second, .val (.long q3), .second, .val (.long q4), .second, .val (.long q5), .second, .val (.int p6), .val (.long zj6), .second, .val (.long zj12), .second, .val (.long zj18), .second, .unset, .unset, .unset] [(.ref b20), (.ref b20)])) _
    refine XS.lloadN X20.here hx rfl (hb hby at_48) rfl ?_
    show Steps p.tables e below (T20.setTop (mkF m 49 #[.val (.long q1), .second, .val (.long q2), .second, .val (.long q3), .second, .val (.long q4), .second, .val (.long q5), .second, .val (.int p6), .val (.long zj6), .second, .val (.long zj12), .second, .val (.long zj18), .second, .unset, .unset, .unset] [(.long q1), (.ref b20), (.ref b20)])) _
    refine XS.lload X20.here hx rfl (hb hby at_49) rfl ?_
    show Steps p.tables e below (T20.setTop (mkF m 51 #[.val (.long q1), .second, .val (.long q2), .second, .val (.long q3), .second, .val (.long q4), .second, .val (.long q5), .second, .val (.int p6), .val (.long zj6), .second, .val (.long zj12), .second, .val (.long zj18), .second, .unset, .unset, .unset] [(.long zj6), (.long q1), (.ref b20), (.ref b20)])) _
    refine XS.lload X20.here hx rfl (hb hby at_51) rfl ?_
    show Steps p.tables e below (T20.setTop (mkF m 53 #[.val (.long q1), .second, .val (.long q2), .second, .val (.long q3), .second, .val (.long q4), .second, .val (.long q5), .second, .val (.int p6), .val (.long zj6), .second, .val (.long zj12), .second, .val (.long zj18), .second, .unset, .unset, .unset] [(.long zj12), (.long zj6), (.long q1), (.ref b20), (.ref b20)])) _
    refine XS.lload X20.here hx rfl (hb hby at_53) rfl ?_
    show Steps p.tables e below (T20.setTop (mkF m 55 #[.val (.long q1), .second, .val (.long q2), .second, .val (.long q3), .second, .val (.long q4), .second, .val (.long q5), .second, .val (.int p6), .val (.long zj6), .second, .val (.long zj12), .second, .val (.long zj18), .second, .unset, .unset, .unset] [(.long q4), (.long zj12), (.long zj6), (.long q1), (.ref b20), (.ref b20)])) _
    refine XS.lload X20.here hx rfl (hb hby at_55) rfl ?_
    show Steps p.tables e below (T20.setTop (mkF m 57 #[.val (.long q1), .second, .val (.long q2), .second, .val (.long q3), .second, .val (.long q4), .second, .val (.long q5), .second, .val (.int p6), .val (.long zj6), .second, .val (.long zj12), .second, .val (.long zj18), .second, .unset, .unset, .unset] [(.long zj18), (.long q4), (.long zj12), (.long zj6), (.long q1), (.ref b20), (.ref b20)])) _
    exact kk
  obtain ⟨_, _, ⟨T24, L24, k24, n24⟩, -, X24, ⟨Lc24, hQ24, l24, y24, z24⟩, st24⟩ := X20.specialBack hx (y := (⟨"com/example/keelbook/keelbook/store/Audit$Summary", "<init>", "(JJJJJ)V"⟩ : MethodName)) rfl hown (mvT hZ (hw _ (List.mem_of_getElem? (i := 3) rfl))) (mvT hZ (hw _ (List.mem_of_getElem? (i := 4) rfl))) (mvT hZ (hw _ (List.mem_of_getElem? (i := 5) rfl))) (by decide) (backOf (W := 1) (rm1 l Z a0 hw [] (b20) (q1) (zj6) (zj12) (q4) (zj18) h20 n0 Zs22 E_b20 F_transactions_b20 F_unbalancedTransactions_b20 F_malformedTransactions_b20 F_accounts_b20 F_balanceMismatches_b20 gn21) hZ (hw _ (List.mem_of_getElem? (i := 5) rfl)) (hw _ (List.mem_of_getElem? (i := 2) rfl)) (by decide) (by decide)) (g := (mkF m 57 #[.val (.long q1), .second, .val (.long q2), .second, .val (.long q3), .second, .val (.long q4), .second, .val (.long q5), .second, .val (.int p6), .val (.long zj6), .second, .val (.long zj12), .second, .val (.long zj18), .second, .unset, .unset, .unset] [(.long zj18), (.long q4), (.long zj12), (.long zj6), (.long q1), (.ref b20), (.ref b20)])) rfl (by rw [hml]; rfl) (Steps.refl _) (a := b20) (argsL := [(.long q1), (.long zj6), (.long zj12), (.long q4), (.long zj18)]) (rest := [(.ref b20)]) (lenOf pd__JJJJJ_V rfl) rfl (by show 2 * 0 + _ ≤ _; exact Nat.le_of_eq rfl) (hb hby at_57) (fun _ _ => ⟨rfl, e20, (by decide : 1 + 0 ≤ _), (by decide : 5 + 0 ≤ _)⟩)
  dsimp only [Pt.U, Pt.locs, Pt.cells, Pt.slots] at X24 l24 y24 z24 st24 hQ24
  subst l24 y24 z24
  obtain ⟨rfl, N24q, K24, Fq24_0, Fq24_1, Fq24_2, Fq24_3, Fq24_4⟩ := hQ24
  have N24 := Fr.app N15 N24q
  have E_b20 : Exa Z T24.heap b20 "com/example/keelbook/keelbook/store/Audit$Summary" := E_b20.keep K24
  have Zs25 : n0 ≤ T24.heap.size := Nat.le_trans Zs22 K24.1
  have KC25 : Keep h0 T24.heap [] := KC22.trans K24 (allS (Or.inr sz21) all0)
  have F_transactions_b20 := Fq24_0
  have F_unbalancedTransactions_b20 := Fq24_1
  have F_malformedTransactions_b20 := Fq24_2
  have F_accounts_b20 := Fq24_3
  have F_balanceMismatches_b20 := Fq24_4
  have pre26 : ∀ tgt, Steps p.tables e below (T24.setTop (mkF m 62 #[.val (.long q1), .second, .val (.long q2), .second, .val (.long q3), .second, .val (.long q4), .second, .val (.long q5), .second, .val (.int p6), .val (.long zj6), .second, .val (.long zj12), .second, .val (.long zj18), .second, .val (.ref b20), .unset, .unset] [])) tgt → Steps p.tables e below (s₁.setTop (entryFrame m #[(.long q1), (.long q2), (.long q3), (.long q4), (.long q5), (.int p6)] maxLocals)) tgt := by
    intro tgt kk
    refine pre23 tgt ?_
    refine st24.trans ?_
    show Steps p.tables e below (T24.setTop (mkF m 60 #[.val (.long q1), .second, .val (.long q2), .second, .val (.long q3), .second, .val (.long q4), .second, .val (.long q5), .second, .val (.int p6), .val (.long zj6), .second, .val (.long zj12), .second, .val (.long zj18), .second, .unset, .unset, .unset] [(.ref b20)])) _
    refine XS.astore X24.here hx rfl (hb hby at_60) rfl rfl (l' := #[.val (.long q1), .second, .val (.long q2), .second, .val (.long q3), .second, .val (.long q4), .second, .val (.long q5), .second, .val (.int p6), .val (.long zj6), .second, .val (.long zj12), .second, .val (.long zj18), .second, .val (.ref b20), .unset, .unset]) rfl ?_
    show Steps p.tables e below (T24.setTop (mkF m 62 #[.val (.long q1), .second, .val (.long q2), .second, .val (.long q3), .second, .val (.long q4), .second, .val (.long q5), .second, .val (.int p6), .val (.long zj6), .second, .val (.long zj12), .second, .val (.long zj18), .second, .val (.ref b20), .unset, .unset] [])) _
    exact kk
  obtain ⟨T27, h27, X27, e27, E27, A27, D27, -, st27⟩ := newO X24 hx hZ hown (hw _ (List.mem_of_getElem? (i := 0) rfl)) (hw _ (List.mem_of_getElem? (i := 1) rfl)) (hw _ (List.mem_of_getElem? (i := 2) rfl)) rfl (g := (mkF m 62 #[.val (.long q1), .second, .val (.long q2), .second, .val (.long q3), .second, .val (.long q4), .second, .val (.long q5), .second, .val (.int p6), .val (.long zj6), .second, .val (.long zj12), .second, .val (.long zj18), .second, .val (.ref b20), .unset, .unset] [])) rfl (hb hby at_62) (by decide) (by decide)
  obtain ⟨b27, g27⟩ : ∃ z, z = T24.heap.size := ⟨_, rfl⟩
  rw [← g27] at A27 D27 st27
  have ne28 : b20 ≠ b27 := Nat.ne_of_lt (Nat.lt_of_lt_of_le E_b20.lt (Nat.le_of_eq g27.symm))
  have gn29 : n0 ≤ b27 := Nat.le_trans Zs25 (Nat.le_of_eq g27.symm)
  have sz29 : h0.size ≤ b27 := Nat.le_trans KC25.1 (Nat.le_of_eq g27.symm)
  have E_b20 : Exa Z h27 b20 "com/example/keelbook/keelbook/store/Audit$Summary" := E_b20.ext E27
  have F_transactions_b20 : Fld Z h27 b20 "com/example/keelbook/keelbook/store/Audit$Summary" "transactions" "J" (.long q1) := F_transactions_b20.ext E27
  have F_unbalancedTransactions_b20 : Fld Z h27 b20 "com/example/keelbook/keelbook/store/Audit$Summary" "unbalancedTransactions" "J" (.long zj6) := F_unbalancedTransactions_b20.ext E27
  have F_malformedTransactions_b20 : Fld Z h27 b20 "com/example/keelbook/keelbook/store/Audit$Summary" "malformedTransactions" "J" (.long zj12) := F_malformedTransactions_b20.ext E27
  have F_accounts_b20 : Fld Z h27 b20 "com/example/keelbook/keelbook/store/Audit$Summary" "accounts" "J" (.long q4) := F_accounts_b20.ext E27
  have F_balanceMismatches_b20 : Fld Z h27 b20 "com/example/keelbook/keelbook/store/Audit$Summary" "balanceMismatches" "J" (.long zj18) := F_balanceMismatches_b20.ext E27
  have Zs30 : n0 ≤ h27.size := Nat.le_trans Zs25 E27.1
  have KC30 : Keep h0 h27 [] := KC25.ext E27
  have E_b27 : Exa Z h27 b27 "com/example/keelbook/keelbook/store/Audit$Summary" := A27
  have F_transactions_b27 : Fld Z h27 b27 "com/example/keelbook/keelbook/store/Audit$Summary" "transactions" "J" (.long (0 : Int64)) := D27 (Or.inr (hw _ (List.mem_of_getElem? (i := 15) rfl))) (ty := .long) (by decide)
  have F_unbalancedTransactions_b27 : Fld Z h27 b27 "com/example/keelbook/keelbook/store/Audit$Summary" "unbalancedTransactions" "J" (.long (0 : Int64)) := D27 (Or.inr (hw _ (List.mem_of_getElem? (i := 17) rfl))) (ty := .long) (by decide)
  have F_malformedTransactions_b27 : Fld Z h27 b27 "com/example/keelbook/keelbook/store/Audit$Summary" "malformedTransactions" "J" (.long (0 : Int64)) := D27 (Or.inr (hw _ (List.mem_of_getElem? (i := 19) rfl))) (ty := .long) (by decide)
  have F_accounts_b27 : Fld Z h27 b27 "com/example/keelbook/keelbook/store/Audit$Summary" "accounts" "J" (.long (0 : Int64)) := D27 (Or.inr (hw _ (List.mem_of_getElem? (i := 21) rfl))) (ty := .long) (by decide)
  have F_balanceMismatches_b27 : Fld Z h27 b27 "com/example/keelbook/keelbook/store/Audit$Summary" "balanceMismatches" "J" (.long (0 : Int64)) := D27 (Or.inr (hw _ (List.mem_of_getElem? (i := 23) rfl))) (ty := .long) (by decide)
  have pre31 : ∀ tgt, Steps p.tables e below (T27.setTop (mkF m 75 #[.val (.long q1), .second, .val (.long q2), .second, .val (.long q3), .second, .val (.long q4), .second, .val (.long q5), .second, .val (.int p6), .val (.long zj6), .second, .val (.long zj12), .second, .val (.long zj18), .second, .val (.ref b20), .unset, .unset] [(.long zj18), (.long q1), (.long zj12), (.long zj6), (.long q4), (.ref b27), (.ref b27)])) tgt → Steps p.tables e below (s₁.setTop (entryFrame m #[(.long q1), (.long q2), (.long q3), (.long q4), (.long q5), (.int p6)] maxLocals)) tgt := by
    intro tgt kk
    refine pre26 tgt ?_
    refine st27 _ ?_
    show Steps p.tables e below (T27.setTop (mkF m 65 #[.val (.long q1), .second, .val (.long q2), .second, .val (.long q3), .second, .val (.long q4), .second, .val (.long q5), .second, .val (.int p6), .val (.long zj6), .second, .val (.long zj12), .second, .val (.long zj18), .second, .val (.ref b20), .unset, .unset] [(.ref b27)])) _
    refine XS.dup X27.here hx rfl (hb hby at_65) rfl rfl ?_
    show Steps p.tables e below (T27.setTop (mkF m 66 #[.val (.long q1), .second, .val (.long q2), .second, .val (.long q3), .second, .val (.long q4), .second, .val (.long q5), .second, .val (.int p6), .val (.long zj6), .second, .val (.long zj12), .second, .val (.long zj18), .second, .val (.ref b20), .unset, .unset] [(.ref b27), (.ref b27)])) _
    refine XS.lload X27.here hx rfl (hb hby at_66) rfl ?_
    show Steps p.tables e below (T27.setTop (mkF m 68 #[.val (.long q1), .second, .val (.long q2), .second, .val (.long q3), .second, .val (.long q4), .second, .val (.long q5), .second, .val (.int p6), .val (.long zj6), .second, .val (.long zj12), .second, .val (.long zj18), .second, .val (.ref b20), .unset, .unset] [(.long q4), (.ref b27), (.ref b27)])) _
    refine XS.lload X27.here hx rfl (hb hby at_68) rfl ?_
    show Steps p.tables e below (T27.setTop (mkF m 70 #[.val (.long q1), .second, .val (.long q2), .second, .val (.long q3), .second, .val (.long q4), .second, .val (.long q5), .second, .val (.int p6), .val (.long zj6), .second, .val (.long zj12), .second, .val (.long zj18), .second, .val (.ref b20), .unset, .unset] [(.long zj6), (.long q4), (.ref b27), (.ref b27)])) _
    refine XS.lload X27.here hx rfl (hb hby at_70) rfl ?_
    show Steps p.tables e below (T27.setTop (mkF m 72 #[.val (.long q1), .second, .val (.long q2), .second, .val (.long q3), .second, .val (.long q4), .second, .val (.long q5), .second, .val (.int p6), .val (.long zj6), .second, .val (.long zj12), .second, .val (.long zj18), .second, .val (.ref b20), .unset, .unset] [(.long zj12), (.long zj6), (.long q4), (.ref b27), (.ref b27)])) _
    refine XS.lloadN X27.here hx rfl (hb hby at_72) rfl ?_
    show Steps p.tables e below (T27.setTop (mkF m 73 #[.val (.long q1), .second, .val (.long q2), .second, .val (.long q3), .second, .val (.long q4), .second, .val (.long q5), .second, .val (.int p6), .val (.long zj6), .second, .val (.long zj12), .second, .val (.long zj18), .second, .val (.ref b20), .unset, .unset] [(.long q1), (.long zj12), (.long zj6), (.long q4), (.ref b27), (.ref b27)])) _
    refine XS.lload X27.here hx rfl (hb hby at_73) rfl ?_
    show Steps p.tables e below (T27.setTop (mkF m 75 #[.val (.long q1), .second, .val (.long q2), .second, .val (.long q3), .second, .val (.long q4), .second, .val (.long q5), .second, .val (.int p6), .val (.long zj6), .second, .val (.long zj12), .second, .val (.long zj18), .second, .val (.ref b20), .unset, .unset] [(.long zj18), (.long q1), (.long zj12), (.long zj6), (.long q4), (.ref b27), (.ref b27)])) _
    exact kk
  obtain ⟨_, _, ⟨T32, L32, k32, n32⟩, -, X32, ⟨Lc32, hQ32, l32, y32, z32⟩, st32⟩ := X27.specialBack hx (y := (⟨"com/example/keelbook/keelbook/store/Audit$Summary", "<init>", "(JJJJJ)V"⟩ : MethodName)) rfl hown (mvT hZ (hw _ (List.mem_of_getElem? (i := 3) rfl))) (mvT hZ (hw _ (List.mem_of_getElem? (i := 4) rfl))) (mvT hZ (hw _ (List.mem_of_getElem? (i := 5) rfl))) (by decide) (backOf (W := 1) (rm1 l Z a0 hw [] (b27) (q4) (zj6) (zj12) (q1) (zj18) h27 n0 Zs30 E_b27 F_transactions_b27 F_unbalancedTransactions_b27 F_malformedTransactions_b27 F_accounts_b27 F_balanceMismatches_b27 gn29) hZ (hw _ (List.mem_of_getElem? (i := 5) rfl)) (hw _ (List.mem_of_getElem? (i := 2) rfl)) (by decide) (by decide)) (g := (mkF m 75 #[.val (.long q1), .second, .val (.long q2), .second, .val (.long q3), .second, .val (.long q4), .second, .val (.long q5), .second, .val (.int p6), .val (.long zj6), .second, .val (.long zj12), .second, .val (.long zj18), .second, .val (.ref b20), .unset, .unset] [(.long zj18), (.long q1), (.long zj12), (.long zj6), (.long q4), (.ref b27), (.ref b27)])) rfl (by rw [hml]; rfl) (Steps.refl _) (a := b27) (argsL := [(.long q4), (.long zj6), (.long zj12), (.long q1), (.long zj18)]) (rest := [(.ref b27)]) (lenOf pd__JJJJJ_V rfl) rfl (by show 2 * 0 + _ ≤ _; exact Nat.le_of_eq rfl) (hb hby at_75) (fun _ _ => ⟨rfl, e27, (by decide : 2 + 0 ≤ _), (by decide : 10 + 0 ≤ _)⟩)
  dsimp only [Pt.U, Pt.locs, Pt.cells, Pt.slots] at X32 l32 y32 z32 st32 hQ32
  subst l32 y32 z32
  obtain ⟨rfl, N32q, K32, Fq32_0, Fq32_1, Fq32_2, Fq32_3, Fq32_4⟩ := hQ32
  have N32 := Fr.app N24 N32q
  have E_b20 : Exa Z T32.heap b20 "com/example/keelbook/keelbook/store/Audit$Summary" := E_b20.keep K32
  have F_transactions_b20 : Fld Z T32.heap b20 "com/example/keelbook/keelbook/store/Audit$Summary" "transactions" "J" (.long q1) := F_transactions_b20.keep K32 (ninS ne28 nin0)
  have F_unbalancedTransactions_b20 : Fld Z T32.heap b20 "com/example/keelbook/keelbook/store/Audit$Summary" "unbalancedTransactions" "J" (.long zj6) := F_unbalancedTransactions_b20.keep K32 (ninS ne28 nin0)
  have F_malformedTransactions_b20 : Fld Z T32.heap b20 "com/example/keelbook/keelbook/store/Audit$Summary" "malformedTransactions" "J" (.long zj12) := F_malformedTransactions_b20.keep K32 (ninS ne28 nin0)
  have F_accounts_b20 : Fld Z T32.heap b20 "com/example/keelbook/keelbook/store/Audit$Summary" "accounts" "J" (.long q4) := F_accounts_b20.keep K32 (ninS ne28 nin0)
  have F_balanceMismatches_b20 : Fld Z T32.heap b20 "com/example/keelbook/keelbook/store/Audit$Summary" "balanceMismatches" "J" (.long zj18) := F_balanceMismatches_b20.keep K32 (ninS ne28 nin0)
  have E_b27 : Exa Z T32.heap b27 "com/example/keelbook/keelbook/store/Audit$Summary" := E_b27.keep K32
  have Zs33 : n0 ≤ T32.heap.size := Nat.le_trans Zs30 K32.1
  have KC33 : Keep h0 T32.heap [] := KC30.trans K32 (allS (Or.inr sz29) all0)
  have F_transactions_b27 := Fq32_0
  have F_unbalancedTransactions_b27 := Fq32_1
  have F_malformedTransactions_b27 := Fq32_2
  have F_accounts_b27 := Fq32_3
  have F_balanceMismatches_b27 := Fq32_4
  have pre34 : ∀ tgt, Steps p.tables e below (T32.setTop (mkF m 90 #[.val (.long q1), .second, .val (.long q2), .second, .val (.long q3), .second, .val (.long q4), .second, .val (.long q5), .second, .val (.int p6), .val (.long zj6), .second, .val (.long zj12), .second, .val (.long zj18), .second, .val (.ref b20), .val (.ref b27), .unset] [(.int (lcmpW ((zj6 ||| zj12) ||| zj18) (0 : Int64)))])) tgt → Steps p.tables e below (s₁.setTop (entryFrame m #[(.long q1), (.long q2), (.long q3), (.long q4), (.long q5), (.int p6)] maxLocals)) tgt := by
    intro tgt kk
    refine pre31 tgt ?_
    refine st32.trans ?_
    show Steps p.tables e below (T32.setTop (mkF m 78 #[.val (.long q1), .second, .val (.long q2), .second, .val (.long q3), .second, .val (.long q4), .second, .val (.long q5), .second, .val (.int p6), .val (.long zj6), .second, .val (.long zj12), .second, .val (.long zj18), .second, .val (.ref b20), .unset, .unset] [(.ref b27)])) _
    refine XS.astore X32.here hx rfl (hb hby at_78) rfl rfl (l' := #[.val (.long q1), .second, .val (.long q2), .second, .val (.long q3), .second, .val (.long q4), .second, .val (.long q5), .second, .val (.int p6), .val (.long zj6), .second, .val (.long zj12), .second, .val (.long zj18), .second, .val (.ref b20), .val (.ref b27), .unset]) rfl ?_
    show Steps p.tables e below (T32.setTop (mkF m 80 #[.val (.long q1), .second, .val (.long q2), .second, .val (.long q3), .second, .val (.long q4), .second, .val (.long q5), .second, .val (.int p6), .val (.long zj6), .second, .val (.long zj12), .second, .val (.long zj18), .second, .val (.ref b20), .val (.ref b27), .unset] [])) _
    refine XS.lload X32.here hx rfl (hb hby at_80) rfl ?_
    show Steps p.tables e below (T32.setTop (mkF m 82 #[.val (.long q1), .second, .val (.long q2), .second, .val (.long q3), .second, .val (.long q4), .second, .val (.long q5), .second, .val (.int p6), .val (.long zj6), .second, .val (.long zj12), .second, .val (.long zj18), .second, .val (.ref b20), .val (.ref b27), .unset] [(.long zj6)])) _
    refine XS.lload X32.here hx rfl (hb hby at_82) rfl ?_
    show Steps p.tables e below (T32.setTop (mkF m 84 #[.val (.long q1), .second, .val (.long q2), .second, .val (.long q3), .second, .val (.long q4), .second, .val (.long q5), .second, .val (.int p6), .val (.long zj6), .second, .val (.long zj12), .second, .val (.long zj18), .second, .val (.ref b20), .val (.ref b27), .unset] [(.long zj12), (.long zj6)])) _
    refine XS.lor X32.here hx rfl (hb hby at_84) rfl ?_
    show Steps p.tables e below (T32.setTop (mkF m 85 #[.val (.long q1), .second, .val (.long q2), .second, .val (.long q3), .second, .val (.long q4), .second, .val (.long q5), .second, .val (.int p6), .val (.long zj6), .second, .val (.long zj12), .second, .val (.long zj18), .second, .val (.ref b20), .val (.ref b27), .unset] [(.long (zj6 ||| zj12))])) _
    refine XS.lload X32.here hx rfl (hb hby at_85) rfl ?_
    show Steps p.tables e below (T32.setTop (mkF m 87 #[.val (.long q1), .second, .val (.long q2), .second, .val (.long q3), .second, .val (.long q4), .second, .val (.long q5), .second, .val (.int p6), .val (.long zj6), .second, .val (.long zj12), .second, .val (.long zj18), .second, .val (.ref b20), .val (.ref b27), .unset] [(.long zj18), (.long (zj6 ||| zj12))])) _
    refine XS.lor X32.here hx rfl (hb hby at_87) rfl ?_
    show Steps p.tables e below (T32.setTop (mkF m 88 #[.val (.long q1), .second, .val (.long q2), .second, .val (.long q3), .second, .val (.long q4), .second, .val (.long q5), .second, .val (.int p6), .val (.long zj6), .second, .val (.long zj12), .second, .val (.long zj18), .second, .val (.ref b20), .val (.ref b27), .unset] [(.long ((zj6 ||| zj12) ||| zj18))])) _
    refine XS.lconst X32.here hx rfl (hb hby at_88) ?_
    show Steps p.tables e below (T32.setTop (mkF m 89 #[.val (.long q1), .second, .val (.long q2), .second, .val (.long q3), .second, .val (.long q4), .second, .val (.long q5), .second, .val (.int p6), .val (.long zj6), .second, .val (.long zj12), .second, .val (.long zj18), .second, .val (.ref b20), .val (.ref b27), .unset] [(.long (0 : Int64)), (.long ((zj6 ||| zj12) ||| zj18))])) _
    refine XS.lcmp X32.here hx rfl (hb hby at_89) rfl ?_
    show Steps p.tables e below (T32.setTop (mkF m 90 #[.val (.long q1), .second, .val (.long q2), .second, .val (.long q3), .second, .val (.long q4), .second, .val (.long q5), .second, .val (.int p6), .val (.long zj6), .second, .val (.long zj12), .second, .val (.long zj18), .second, .val (.ref b20), .val (.ref b27), .unset] [(.int (lcmpW ((zj6 ||| zj12) ||| zj18) (0 : Int64)))])) _
    exact kk
  obtain ⟨T36, lo36, X36, N36, e36, pre36⟩ : ∃ (T' : State) (lo : List Loc), Stand p l e room_1 s m #[(.long q1), (.long q2), (.long q3), (.long q4), (.long q5), (.int p6)] below meth c T' lo 2 10 ∧ Fr n0 lo ∧ T'.heap = T32.heap ∧ ∀ tgt, Steps p.tables e below (T'.setTop (mkF m 98 #[.val (.long q1), .second, .val (.long q2), .second, .val (.long q3), .second, .val (.long q4), .second, .val (.long q5), .second, .val (.int p6), .val (.long zj6), .second, .val (.long zj12), .second, .val (.long zj18), .second, .val (.ref b20), .val (.ref b27), .unset] [(.int (bI (((zj6 ||| zj12) ||| zj18) = (0 : Int64))))])) tgt → Steps p.tables e below (s₁.setTop (entryFrame m #[(.long q1), (.long q2), (.long q3), (.long q4), (.long q5), (.int p6)] maxLocals)) tgt := by
    by_cases hc90_35 : ((zj6 ||| zj12) ||| zj18) = (0 : Int64)
    · skip
      refine ⟨T32, _, X32, N32, rfl, fun tgt kk => ?_⟩
      have kq37 : ((.int (bI (((zj6 ||| zj12) ||| zj18) = (0 : Int64)))) : Value) = (.int (1 : Int32)) := (congrArg Value.int (bI_t hc90_35))
      rw [kq37] at kk
      refine pre34 tgt ?_
      refine XS.ifNo X32.here hx rfl (hb hby at_90) rfl (XT.ll_ne_f hc90_35) ?_
      show Steps p.tables e below (T32.setTop (mkF m 93 #[.val (.long q1), .second, .val (.long q2), .second, .val (.long q3), .second, .val (.long q4), .second, .val (.long q5), .second, .val (.int p6), .val (.long zj6), .second, .val (.long zj12), .second, .val (.long zj18), .second, .val (.ref b20), .val (.ref b27), .unset] [])) _
      refine XS.iconst X32.here hx rfl (hb hby at_93) ?_
      show Steps p.tables e below (T32.setTop (mkF m 94 #[.val (.long q1), .second, .val (.long q2), .second, .val (.long q3), .second, .val (.long q4), .second, .val (.long q5), .second, .val (.int p6), .val (.long zj6), .second, .val (.long zj12), .second, .val (.long zj18), .second, .val (.ref b20), .val (.ref b27), .unset] [(.int (1 : Int32))])) _
      refine XS.goto X32.here hx rfl (pc0 := 94) (pc' := 98) rfl (hb hby at_94) (by decide) (by decide) ?_
      show Steps p.tables e below (T32.setTop (mkF m 98 #[.val (.long q1), .second, .val (.long q2), .second, .val (.long q3), .second, .val (.long q4), .second, .val (.long q5), .second, .val (.int p6), .val (.long zj6), .second, .val (.long zj12), .second, .val (.long zj18), .second, .val (.ref b20), .val (.ref b27), .unset] [(.int (1 : Int32))])) _
      exact kk
    · skip
      refine ⟨T32, _, X32, N32, rfl, fun tgt kk => ?_⟩
      have kq38 : ((.int (bI (((zj6 ||| zj12) ||| zj18) = (0 : Int64)))) : Value) = (.int (0 : Int32)) := (congrArg Value.int (bI_f hc90_35))
      rw [kq38] at kk
      refine pre34 tgt ?_
      refine XS.ifYes X32.here hx rfl (pc0 := 90) (pc' := 97) rfl (hb hby at_90) rfl (XT.ll_ne_t hc90_35) (by decide) (by decide) ?_
      show Steps p.tables e below (T32.setTop (mkF m 97 #[.val (.long q1), .second, .val (.long q2), .second, .val (.long q3), .second, .val (.long q4), .second, .val (.long q5), .second, .val (.int p6), .val (.long zj6), .second, .val (.long zj12), .second, .val (.long zj18), .second, .val (.ref b20), .val (.ref b27), .unset] [])) _
      refine XS.iconst X32.here hx rfl (hb hby at_97) ?_
      show Steps p.tables e below (T32.setTop (mkF m 98 #[.val (.long q1), .second, .val (.long q2), .second, .val (.long q3), .second, .val (.long q4), .second, .val (.long q5), .second, .val (.int p6), .val (.long zj6), .second, .val (.long zj12), .second, .val (.long zj18), .second, .val (.ref b20), .val (.ref b27), .unset] [(.int (0 : Int32))])) _
      exact kk
  have pre39 : ∀ tgt, Steps p.tables e below (T36.setTop (mkF m 102 #[.val (.long q1), .second, .val (.long q2), .second, .val (.long q3), .second, .val (.long q4), .second, .val (.long q5), .second, .val (.int p6), .val (.long zj6), .second, .val (.long zj12), .second, .val (.long zj18), .second, .val (.ref b20), .val (.ref b27), .val (.int (bI (((zj6 ||| zj12) ||| zj18) = (0 : Int64))))] [(.ref b20)])) tgt → Steps p.tables e below (s₁.setTop (entryFrame m #[(.long q1), (.long q2), (.long q3), (.long q4), (.long q5), (.int p6)] maxLocals)) tgt := by
    intro tgt kk
    refine pre36 tgt ?_
    refine XS.istore X36.here hx rfl (hb hby at_98) rfl (l' := #[.val (.long q1), .second, .val (.long q2), .second, .val (.long q3), .second, .val (.long q4), .second, .val (.long q5), .second, .val (.int p6), .val (.long zj6), .second, .val (.long zj12), .second, .val (.long zj18), .second, .val (.ref b20), .val (.ref b27), .val (.int (bI (((zj6 ||| zj12) ||| zj18) = (0 : Int64))))]) rfl ?_
    show Steps p.tables e below (T36.setTop (mkF m 100 #[.val (.long q1), .second, .val (.long q2), .second, .val (.long q3), .second, .val (.long q4), .second, .val (.long q5), .second, .val (.int p6), .val (.long zj6), .second, .val (.long zj12), .second, .val (.long zj18), .second, .val (.ref b20), .val (.ref b27), .val (.int (bI (((zj6 ||| zj12) ||| zj18) = (0 : Int64))))] [])) _
    refine XS.aload X36.here hx rfl (hb hby at_100) rfl rfl ?_
    show Steps p.tables e below (T36.setTop (mkF m 102 #[.val (.long q1), .second, .val (.long q2), .second, .val (.long q3), .second, .val (.long q4), .second, .val (.long q5), .second, .val (.int p6), .val (.long zj6), .second, .val (.long zj12), .second, .val (.long zj18), .second, .val (.ref b20), .val (.ref b27), .val (.int (bI (((zj6 ||| zj12) ||| zj18) = (0 : Int64))))] [(.ref b20)])) _
    exact kk
  obtain ⟨cq40, kq40, q40a, q40b, q40c⟩ := isOf hZ e36 E_b20
  obtain ⟨_, _, ⟨T40, L40, k40, n40⟩, -, X40, ⟨Lc40, hQ40, l40, y40, z40⟩, st40⟩ := X36.virtualBack hx (y := (⟨"com/example/keelbook/keelbook/store/Audit$Summary", "ok", "()Z"⟩ : MethodName)) (z := (⟨"com/example/keelbook/keelbook/store/Audit$Summary", "ok", "()Z"⟩ : MethodName)) hown (mvT hZ (hw _ (List.mem_of_getElem? (i := 24) rfl))) (mvT hZ (hw _ (List.mem_of_getElem? (i := 25) rfl))) (notFace_of_selects (args := #[]) (mvT hZ (hw _ (List.mem_of_getElem? (i := 27) rfl)))) (mvT hZ (hw _ (List.mem_of_getElem? (i := 27) rfl))) (mvT hZ (hw _ (List.mem_of_getElem? (i := 26) rfl))) (by decide) (backOf (W := 0) (rm4 l Z a0 hw [] b20 zj6 zj12 zj18 T32.heap n0 Zs33 F_unbalancedTransactions_b20 F_malformedTransactions_b20 F_balanceMismatches_b20) hZ (hw _ (List.mem_of_getElem? (i := 28) rfl)) (hw _ (List.mem_of_getElem? (i := 2) rfl)) (by decide) (by decide)) q40a q40c (g := (mkF m 102 #[.val (.long q1), .second, .val (.long q2), .second, .val (.long q3), .second, .val (.long q4), .second, .val (.long q5), .second, .val (.int p6), .val (.long zj6), .second, .val (.long zj12), .second, .val (.long zj18), .second, .val (.ref b20), .val (.ref b27), .val (.int (bI (((zj6 ||| zj12) ||| zj18) = (0 : Int64))))] [(.ref b20)])) rfl (by rw [hml]; rfl) (Steps.refl _) (argsL := []) (rest := []) (lenOf pd___Z rfl) rfl (by show 2 * 0 + _ ≤ _; exact Nat.le_of_eq rfl) (hb hby at_102) (fun _ _ => ⟨rfl, e36, (by decide : 2 + 0 ≤ _), (by decide : 10 + 0 ≤ _)⟩)
  dsimp only [Pt.U, Pt.locs, Pt.cells, Pt.slots] at X40 l40 y40 z40 st40 hQ40
  subst l40 y40 z40
  obtain ⟨rfl, N40q, hh40⟩ := hQ40
  have N40 := Fr.app N36 N40q
  have pre41 : ∀ tgt, Steps p.tables e below (T40.setTop (mkF m 107 #[.val (.long q1), .second, .val (.long q2), .second, .val (.long q3), .second, .val (.long q4), .second, .val (.long q5), .second, .val (.int p6), .val (.long zj6), .second, .val (.long zj12), .second, .val (.long zj18), .second, .val (.ref b20), .val (.ref b27), .val (.int (bI (((zj6 ||| zj12) ||| zj18) = (0 : Int64))))] [(.int (bI (((zj6 ||| zj12) ||| zj18) = (0 : Int64)))), (.int (bI ((zj6 = (0 : Int64)) ∧ ((zj12 = (0 : Int64)) ∧ (zj18 = (0 : Int64))))))])) tgt → Steps p.tables e below (s₁.setTop (entryFrame m #[(.long q1), (.long q2), (.long q3), (.long q4), (.long q5), (.int p6)] maxLocals)) tgt := by
    intro tgt kk
    refine pre39 tgt ?_
    refine st40.trans ?_
    show Steps p.tables e below (T40.setTop (mkF m 105 #[.val (.long q1), .second, .val (.long q2), .second, .val (.long q3), .second, .val (.long q4), .second, .val (.long q5), .second, .val (.int p6), .val (.long zj6), .second, .val (.long zj12), .second, .val (.long zj18), .second, .val (.ref b20), .val (.ref b27), .val (.int (bI (((zj6 ||| zj12) ||| zj18) = (0 : Int64))))] [(.int (bI ((zj6 = (0 : Int64)) ∧ ((zj12 = (0 : Int64)) ∧ (zj18 = (0 : Int64))))))])) _
    refine XS.iload X40.here hx rfl (hb hby at_105) rfl ?_
    show Steps p.tables e below (T40.setTop (mkF m 107 #[.val (.long q1), .second, .val (.long q2), .second, .val (.long q3), .second, .val (.long q4), .second, .val (.long q5), .second, .val (.int p6), .val (.long zj6), .second, .val (.long zj12), .second, .val (.long zj18), .second, .val (.ref b20), .val (.ref b27), .val (.int (bI (((zj6 ||| zj12) ||| zj18) = (0 : Int64))))] [(.int (bI (((zj6 ||| zj12) ||| zj18) = (0 : Int64)))), (.int (bI ((zj6 = (0 : Int64)) ∧ ((zj12 = (0 : Int64)) ∧ (zj18 = (0 : Int64))))))])) _
    exact kk
  obtain ⟨T47, lo47, X47, N47, e47, pre47⟩ : ∃ (T' : State) (lo : List Loc), Stand p l e room_1 s m #[(.long q1), (.long q2), (.long q3), (.long q4), (.long q5), (.int p6)] below meth c T' lo 2 10 ∧ Fr n0 lo ∧ T'.heap = T32.heap ∧ ∀ tgt, Steps p.tables e below (T'.setTop (mkF m 125 #[.val (.long q1), .second, .val (.long q2), .second, .val (.long q3), .second, .val (.long q4), .second, .val (.long q5), .second, .val (.int p6), .val (.long zj6), .second, .val (.long zj12), .second, .val (.long zj18), .second, .val (.ref b20), .val (.ref b27), .val (.int (bI (((zj6 ||| zj12) ||| zj18) = (0 : Int64))))] [(.int (bI ((((zj6 = (0 : Int64)) ∧ ((zj12 = (0 : Int64)) ∧ (zj18 = (0 : Int64)))) ↔ (((zj6 ||| zj12) ||| zj18) = (0 : Int64))) ∧ (((zj6 = (0 : Int64)) ∧ ((zj12 = (0 : Int64)) ∧ (zj18 = (0 : Int64)))) ↔ (((zj6 ||| zj12) ||| zj18) = (0 : Int64))))))])) tgt → Steps p.tables e below (s₁.setTop (entryFrame m #[(.long q1), (.long q2), (.long q3), (.long q4), (.long q5), (.int p6)] maxLocals)) tgt := by
    by_cases hc107_42 : ((zj6 = (0 : Int64)) ∧ ((zj12 = (0 : Int64)) ∧ (zj18 = (0 : Int64)))) ↔ (((zj6 ||| zj12) ||| zj18) = (0 : Int64))
    · skip
      have pre43 : ∀ tgt, Steps p.tables e below (T40.setTop (mkF m 112 #[.val (.long q1), .second, .val (.long q2), .second, .val (.long q3), .second, .val (.long q4), .second, .val (.long q5), .second, .val (.int p6), .val (.long zj6), .second, .val (.long zj12), .second, .val (.long zj18), .second, .val (.ref b20), .val (.ref b27), .val (.int (bI (((zj6 ||| zj12) ||| zj18) = (0 : Int64))))] [(.ref b27)])) tgt → Steps p.tables e below (s₁.setTop (entryFrame m #[(.long q1), (.long q2), (.long q3), (.long q4), (.long q5), (.int p6)] maxLocals)) tgt := by
        intro tgt kk
        refine pre41 tgt ?_
        refine XS.icmpNo X40.here hx rfl (hb hby at_107) rfl (XT.ii_ne_f (bI_eq.mpr hc107_42)) ?_
        show Steps p.tables e below (T40.setTop (mkF m 110 #[.val (.long q1), .second, .val (.long q2), .second, .val (.long q3), .second, .val (.long q4), .second, .val (.long q5), .second, .val (.int p6), .val (.long zj6), .second, .val (.long zj12), .second, .val (.long zj18), .second, .val (.ref b20), .val (.ref b27), .val (.int (bI (((zj6 ||| zj12) ||| zj18) = (0 : Int64))))] [])) _
        refine XS.aload X40.here hx rfl (hb hby at_110) rfl rfl ?_
        show Steps p.tables e below (T40.setTop (mkF m 112 #[.val (.long q1), .second, .val (.long q2), .second, .val (.long q3), .second, .val (.long q4), .second, .val (.long q5), .second, .val (.int p6), .val (.long zj6), .second, .val (.long zj12), .second, .val (.long zj18), .second, .val (.ref b20), .val (.ref b27), .val (.int (bI (((zj6 ||| zj12) ||| zj18) = (0 : Int64))))] [(.ref b27)])) _
        exact kk
      obtain ⟨cq44, kq44, q44a, q44b, q44c⟩ := isOf hZ hh40 E_b27
      obtain ⟨_, _, ⟨T44, L44, k44, n44⟩, -, X44, ⟨Lc44, hQ44, l44, y44, z44⟩, st44⟩ := X40.virtualBack hx (y := (⟨"com/example/keelbook/keelbook/store/Audit$Summary", "ok", "()Z"⟩ : MethodName)) (z := (⟨"com/example/keelbook/keelbook/store/Audit$Summary", "ok", "()Z"⟩ : MethodName)) hown (mvT hZ (hw _ (List.mem_of_getElem? (i := 24) rfl))) (mvT hZ (hw _ (List.mem_of_getElem? (i := 25) rfl))) (notFace_of_selects (args := #[]) (mvT hZ (hw _ (List.mem_of_getElem? (i := 27) rfl)))) (mvT hZ (hw _ (List.mem_of_getElem? (i := 27) rfl))) (mvT hZ (hw _ (List.mem_of_getElem? (i := 26) rfl))) (by decide) (backOf (W := 0) (rm4 l Z a0 hw [] b27 zj6 zj12 zj18 T32.heap n0 Zs33 F_unbalancedTransactions_b27 F_malformedTransactions_b27 F_balanceMismatches_b27) hZ (hw _ (List.mem_of_getElem? (i := 28) rfl)) (hw _ (List.mem_of_getElem? (i := 2) rfl)) (by decide) (by decide)) q44a q44c (g := (mkF m 112 #[.val (.long q1), .second, .val (.long q2), .second, .val (.long q3), .second, .val (.long q4), .second, .val (.long q5), .second, .val (.int p6), .val (.long zj6), .second, .val (.long zj12), .second, .val (.long zj18), .second, .val (.ref b20), .val (.ref b27), .val (.int (bI (((zj6 ||| zj12) ||| zj18) = (0 : Int64))))] [(.ref b27)])) rfl (by rw [hml]; rfl) (Steps.refl _) (argsL := []) (rest := []) (lenOf pd___Z rfl) rfl (by show 2 * 0 + _ ≤ _; exact Nat.le_of_eq rfl) (hb hby at_112) (fun _ _ => ⟨rfl, hh40, (by decide : 2 + 0 ≤ _), (by decide : 10 + 0 ≤ _)⟩)
      dsimp only [Pt.U, Pt.locs, Pt.cells, Pt.slots] at X44 l44 y44 z44 st44 hQ44
      subst l44 y44 z44
      obtain ⟨rfl, N44q, hh44⟩ := hQ44
      have N44 := Fr.app N40 N44q
      have pre45 : ∀ tgt, Steps p.tables e below (T44.setTop (mkF m 117 #[.val (.long q1), .second, .val (.long q2), .second, .val (.long q3), .second, .val (.long q4), .second, .val (.long q5), .second, .val (.int p6), .val (.long zj6), .second, .val (.long zj12), .second, .val (.long zj18), .second, .val (.ref b20), .val (.ref b27), .val (.int (bI (((zj6 ||| zj12) ||| zj18) = (0 : Int64))))] [(.int (bI (((zj6 ||| zj12) ||| zj18) = (0 : Int64)))), (.int (bI ((zj6 = (0 : Int64)) ∧ ((zj12 = (0 : Int64)) ∧ (zj18 = (0 : Int64))))))])) tgt → Steps p.tables e below (s₁.setTop (entryFrame m #[(.long q1), (.long q2), (.long q3), (.long q4), (.long q5), (.int p6)] maxLocals)) tgt := by
        intro tgt kk
        refine pre43 tgt ?_
        refine st44.trans ?_
        show Steps p.tables e below (T44.setTop (mkF m 115 #[.val (.long q1), .second, .val (.long q2), .second, .val (.long q3), .second, .val (.long q4), .second, .val (.long q5), .second, .val (.int p6), .val (.long zj6), .second, .val (.long zj12), .second, .val (.long zj18), .second, .val (.ref b20), .val (.ref b27), .val (.int (bI (((zj6 ||| zj12) ||| zj18) = (0 : Int64))))] [(.int (bI ((zj6 = (0 : Int64)) ∧ ((zj12 = (0 : Int64)) ∧ (zj18 = (0 : Int64))))))])) _
        refine XS.iload X44.here hx rfl (hb hby at_115) rfl ?_
        show Steps p.tables e below (T44.setTop (mkF m 117 #[.val (.long q1), .second, .val (.long q2), .second, .val (.long q3), .second, .val (.long q4), .second, .val (.long q5), .second, .val (.int p6), .val (.long zj6), .second, .val (.long zj12), .second, .val (.long zj18), .second, .val (.ref b20), .val (.ref b27), .val (.int (bI (((zj6 ||| zj12) ||| zj18) = (0 : Int64))))] [(.int (bI (((zj6 ||| zj12) ||| zj18) = (0 : Int64)))), (.int (bI ((zj6 = (0 : Int64)) ∧ ((zj12 = (0 : Int64)) ∧ (zj18 = (0 : Int64))))))])) _
        exact kk
      by_cases hc117_46 : ((zj6 = (0 : Int64)) ∧ ((zj12 = (0 : Int64)) ∧ (zj18 = (0 : Int64)))) ↔ (((zj6 ||| zj12) ||| zj18) = (0 : Int64))
      · skip
        refine ⟨T44, _, X44, N44, hh44, fun tgt kk => ?_⟩
        have kq48 : ((.int (bI ((((zj6 = (0 : Int64)) ∧ ((zj12 = (0 : Int64)) ∧ (zj18 = (0 : Int64)))) ↔ (((zj6 ||| zj12) ||| zj18) = (0 : Int64))) ∧ (((zj6 = (0 : Int64)) ∧ ((zj12 = (0 : Int64)) ∧ (zj18 = (0 : Int64)))) ↔ (((zj6 ||| zj12) ||| zj18) = (0 : Int64)))))) : Value) = (.int (1 : Int32)) := ((congrArg Value.int (bI_iff (and_iff_right hc107_42))).trans (congrArg Value.int (bI_t hc117_46)))
        rw [kq48] at kk
        refine pre45 tgt ?_
        refine XS.icmpNo X44.here hx rfl (hb hby at_117) rfl (XT.ii_ne_f (bI_eq.mpr hc117_46)) ?_
        show Steps p.tables e below (T44.setTop (mkF m 120 #[.val (.long q1), .second, .val (.long q2), .second, .val (.long q3), .second, .val (.long q4), .second, .val (.long q5), .second, .val (.int p6), .val (.long zj6), .second, .val (.long zj12), .second, .val (.long zj18), .second, .val (.ref b20), .val (.ref b27), .val (.int (bI (((zj6 ||| zj12) ||| zj18) = (0 : Int64))))] [])) _
        refine XS.iconst X44.here hx rfl (hb hby at_120) ?_
        show Steps p.tables e below (T44.setTop (mkF m 121 #[.val (.long q1), .second, .val (.long q2), .second, .val (.long q3), .second, .val (.long q4), .second, .val (.long q5), .second, .val (.int p6), .val (.long zj6), .second, .val (.long zj12), .second, .val (.long zj18), .second, .val (.ref b20), .val (.ref b27), .val (.int (bI (((zj6 ||| zj12) ||| zj18) = (0 : Int64))))] [(.int (1 : Int32))])) _
        refine XS.goto X44.here hx rfl (pc0 := 121) (pc' := 125) rfl (hb hby at_121) (by decide) (by decide) ?_
        show Steps p.tables e below (T44.setTop (mkF m 125 #[.val (.long q1), .second, .val (.long q2), .second, .val (.long q3), .second, .val (.long q4), .second, .val (.long q5), .second, .val (.int p6), .val (.long zj6), .second, .val (.long zj12), .second, .val (.long zj18), .second, .val (.ref b20), .val (.ref b27), .val (.int (bI (((zj6 ||| zj12) ||| zj18) = (0 : Int64))))] [(.int (1 : Int32))])) _
        exact kk
      · skip
        refine ⟨T44, _, X44, N44, hh44, fun tgt kk => ?_⟩
        have kq49 : ((.int (bI ((((zj6 = (0 : Int64)) ∧ ((zj12 = (0 : Int64)) ∧ (zj18 = (0 : Int64)))) ↔ (((zj6 ||| zj12) ||| zj18) = (0 : Int64))) ∧ (((zj6 = (0 : Int64)) ∧ ((zj12 = (0 : Int64)) ∧ (zj18 = (0 : Int64)))) ↔ (((zj6 ||| zj12) ||| zj18) = (0 : Int64)))))) : Value) = (.int (0 : Int32)) := ((congrArg Value.int (bI_iff (and_iff_right hc107_42))).trans (congrArg Value.int (bI_f hc117_46)))
        rw [kq49] at kk
        refine pre45 tgt ?_
        refine XS.icmpYes X44.here hx rfl (pc0 := 117) (pc' := 124) rfl (hb hby at_117) rfl (XT.ii_ne_t (fun q => hc117_46 (bI_eq.mp q))) (by decide) (by decide) ?_
        show Steps p.tables e below (T44.setTop (mkF m 124 #[.val (.long q1), .second, .val (.long q2), .second, .val (.long q3), .second, .val (.long q4), .second, .val (.long q5), .second, .val (.int p6), .val (.long zj6), .second, .val (.long zj12), .second, .val (.long zj18), .second, .val (.ref b20), .val (.ref b27), .val (.int (bI (((zj6 ||| zj12) ||| zj18) = (0 : Int64))))] [])) _
        refine XS.iconst X44.here hx rfl (hb hby at_124) ?_
        show Steps p.tables e below (T44.setTop (mkF m 125 #[.val (.long q1), .second, .val (.long q2), .second, .val (.long q3), .second, .val (.long q4), .second, .val (.long q5), .second, .val (.int p6), .val (.long zj6), .second, .val (.long zj12), .second, .val (.long zj18), .second, .val (.ref b20), .val (.ref b27), .val (.int (bI (((zj6 ||| zj12) ||| zj18) = (0 : Int64))))] [(.int (0 : Int32))])) _
        exact kk
    · skip
      refine ⟨T40, _, X40, N40, hh40, fun tgt kk => ?_⟩
      have kq50 : ((.int (bI ((((zj6 = (0 : Int64)) ∧ ((zj12 = (0 : Int64)) ∧ (zj18 = (0 : Int64)))) ↔ (((zj6 ||| zj12) ||| zj18) = (0 : Int64))) ∧ (((zj6 = (0 : Int64)) ∧ ((zj12 = (0 : Int64)) ∧ (zj18 = (0 : Int64)))) ↔ (((zj6 ||| zj12) ||| zj18) = (0 : Int64)))))) : Value) = (.int (0 : Int32)) := (congrArg Value.int (bI_f (fun q => hc107_42 q.1)))
      rw [kq50] at kk
      refine pre41 tgt ?_
      refine XS.icmpYes X40.here hx rfl (pc0 := 107) (pc' := 124) rfl (hb hby at_107) rfl (XT.ii_ne_t (fun q => hc107_42 (bI_eq.mp q))) (by decide) (by decide) ?_
      show Steps p.tables e below (T40.setTop (mkF m 124 #[.val (.long q1), .second, .val (.long q2), .second, .val (.long q3), .second, .val (.long q4), .second, .val (.long q5), .second, .val (.int p6), .val (.long zj6), .second, .val (.long zj12), .second, .val (.long zj18), .second, .val (.ref b20), .val (.ref b27), .val (.int (bI (((zj6 ||| zj12) ||| zj18) = (0 : Int64))))] [])) _
      refine XS.iconst X40.here hx rfl (hb hby at_124) ?_
      show Steps p.tables e below (T40.setTop (mkF m 125 #[.val (.long q1), .second, .val (.long q2), .second, .val (.long q3), .second, .val (.long q4), .second, .val (.long q5), .second, .val (.int p6), .val (.long zj6), .second, .val (.long zj12), .second, .val (.long zj18), .second, .val (.ref b20), .val (.ref b27), .val (.int (bI (((zj6 ||| zj12) ||| zj18) = (0 : Int64))))] [(.int (0 : Int32))])) _
      exact kk
  obtain ⟨fs, hr, hrun, hended, hW, hsame⟩ := X47.leave (v := some (.int (nar .boolean (bI ((((zj6 = (0 : Int64)) ∧ ((zj12 = (0 : Int64)) ∧ (zj18 = (0 : Int64)))) ↔ (((zj6 ||| zj12) ||| zj18) = (0 : Int64))) ∧ (((zj6 = (0 : Int64)) ∧ ((zj12 = (0 : Int64)) ∧ (zj18 = (0 : Int64)))) ↔ (((zj6 ||| zj12) ||| zj18) = (0 : Int64)))))))) (fun h => by rw [Bd.returns] at h; cases h)
  refine ⟨_, _, pre47 _ ?_, hrun, hended, _, _, rfl, ?_, ⟨_, rfl⟩, hW, hsame.mono (by decide) (by decide)⟩
  · skip
    exact retN X47 hx (t := .boolean) Bd.returns (by simp) (hb hby at_125) hr
  · show Q0 Z q1 q2 q3 q4 q5 p6 h0 n0 _ T47.heap _
    rw [e47]
    exact ⟨bI_one (by constructor <;> (rw [own_or])), N47⟩
set_option maxRecDepth 65536 in
set_option maxHeartbeats 40000000 in
theorem comes_1 {Post : Tables → Env → Array Value → State → Outcome → State → Prop} (hpost : ∀ tb e args s v u, (limb_1_1.after args s (.returned v) u = true ∧ limb_1_2.after args s (.returned v) u = true ∧ True) → FrameEnd s (.returned v) u (Jvm.fieldLocs frame_1_writes args s ++ Jvm.arrayLocs frame_1_arrays args s ++ Jvm.staticLocs frame_1_statics s) 16 128 → Post tb e args s (.returned v) u) :
    ArmFor flags0 classFile x code maxLocals ret World_1 tables_1 room_1 Calls_1 rest_1 Pre_1 Post := by
  intro l hfl _ _ p e ha hc hk s m args below hf hA hF happ hP
  obtain ⟨hcalls, hrest, hpre⟩ := hP
  obtain ⟨-, -, -, hnamed, -, -, -, hat⟩ := (Spec.applies_iff hf).mp happ
  obtain ⟨hg, hn⟩ := and_e (Cond.before_iff.mp (show (Jvm.Cond.and given_1 narrow_1).before args s = true from hpre))
  obtain ⟨hcount, g0⟩ := and_e hg
  obtain ⟨ga0, g1⟩ := and_e g0
  obtain ⟨ga1, g2⟩ := and_e g1
  obtain ⟨ga2, g3⟩ := and_e g2
  obtain ⟨ga3, g4⟩ := and_e g3
  obtain ⟨ga4, g5⟩ := and_e g4
  have ga5 := g5
  obtain ⟨w0, w1, w2, w3, w4, w5, rfl⟩ : ∃ w0 w1 w2 w3 w4 w5 : Value, args = #[w0, w1, w2, w3, w4, w5] := by
    have hs : args.size = 6 := by simpa [Cond.value, given_1] using hcount
    obtain ⟨L⟩ := args
    match L, hs with
    | [w0, w1, w2, w3, w4, w5], _ => exact ⟨w0, w1, w2, w3, w4, w5, rfl⟩
  have hw := fun d (hd : d ∈ tables_1) => atoms_spec (ws := Jvm.Cond.code x code maxLocals ret :: tables_1) hat d (List.mem_cons_of_mem _ hd)
  have hfit : Fit s := fun {y c} hc i hi => by
    obtain ⟨ha, rfl⟩ := Array.getElem?_eq_some_iff.mp hc
    have q := List.all_eq_true.mp ((Array.all_eq_true_iff_forall_mem.mp hF) _ (Array.getElem_mem ha)) i (List.mem_range.mpr hi)
    simpa [Array.getElem?_eq_getElem hi] using q
  obtain ⟨i0, ei0⟩ := isL_v ga0
  obtain rfl : w0 = (.long i0) := Option.some.inj ei0
  obtain ⟨i1, ei1⟩ := isL_v ga1
  obtain rfl : w1 = (.long i1) := Option.some.inj ei1
  obtain ⟨i2, ei2⟩ := isL_v ga2
  obtain rfl : w2 = (.long i2) := Option.some.inj ei2
  obtain ⟨i3, ei3⟩ := isL_v ga3
  obtain rfl : w3 = (.long i3) := Option.some.inj ei3
  obtain ⟨i4, ei4⟩ := isL_v ga4
  obtain rfl : w4 = (.long i4) := Option.some.inj ei4
  obtain ⟨i5, ei5⟩ := is_v ga5
  obtain rfl : w5 = (.int i5) := Option.some.inj ei5
  obtain ⟨n, o, h1, h2, h3, _, L, rfl, ⟨rfl, N⟩, hq⟩ := rm0 l s _ hw tables_1 i0 i1 i2 i3 i4 i5 s.heap s.heap.size (Nat.le_refl _) p e ha hc hk s m _ below hf ((Spec.applies_iff_loose hf).mp happ).1 ⟨rfl, State.Warmed39.refl s, rfl⟩ trivial
  refine ⟨n, _, h1, h2, h3, hpost _ _ _ _ _ _ ⟨Cond.after_iff.mpr rfl, Cond.after_iff.mpr (eq_i res_at (Term.int_eval (1)) rfl), trivial⟩ ⟨hq.1, hq.2.1, (hq.2.2.sift fun y hy => Or.inr (N y hy)).mono (by decide) (by decide)⟩⟩
theorem main_1_1 : Claimed_1_1 := comes_1 fun _ _ _ _ _ _ h hF => ⟨h.1, hF⟩
theorem main_1_2 : Claimed_1_2 := comes_1 fun _ _ _ _ _ _ h hF => ⟨h.2.1, hF⟩
end Jvm.Pilot.@@N@@
namespace Jvm.Pilot.@@N@@
open Jvm Jvm.ClassFile Sem Op Lib Jvm.Free Jvm.Stand Jvm.Pilot.@@N@@.Jvm.D
/-! MADE BY PROGRAM (witnessworld.py) out of the Statement's table words and the real class files: 10 classes; the members and pool entries that the words name. The judged class is class 1, her method 1. -/
namespace start1
open Jvm.ClassFile
def u (s : String) : CpInfo := .utf8 (stringToUtf16 s)
/-- a pool by its gaps: so many unusable entries, then the entry; so many at the end -/
def gap : Nat → List CpInfo → List CpInfo
  | 0, r => r
  | n + 1, r => .unusable :: gap n r
def poolList (es : List (Nat × CpInfo)) (last : Nat) : List CpInfo := es.foldr (fun e r => gap e.1 (e.2 :: r)) (gap last [])
def pool (es : List (Nat × CpInfo)) (last : Nat) : Array CpInfo := ⟨poolList es last⟩
def fileOf (pool : Array CpInfo) (this : Nat) (attrs : Array Attribute := #[]) (ms : Array MethodInfo := #[]) (fl : Nat := 33) (sup : Nat := 0) (ifs : Array Nat := #[]) (fds : Array FieldInfo := #[]) : ClassFile where
  minorVersion := 0
  majorVersion := 65
  constantPool := pool
  accessFlags := fl
  thisClass := this
  superClass := sup
  interfaces := ifs
  fields := fds
  methods := ms
  attributes := attrs
def plain (name : String) (sup : Option ClassId) : Class where
  name := name
  kind := .ordinary
  loader := none
  accessFlags := 33
  super := sup
  interfaces := #[]
  cf := none
  fields := #[]
  methods := #[]
  instanceTypes := #[]
  staticTypes := #[]
  resolved := #[]
  callSites := []
  init := .initialized
  statics := none
  mirror := none

def pool0 : Array CpInfo := pool [(5, u "<init>"), (0, u "()V"), (1, .class_ 10), (1, u "java/lang/Object")] 113

def k0c0 : Code := { maxStack := 0, maxLocals := 1, code := object_method_1_code, exceptionTable := #[], attributes := #[] }
def k0m0 : Method := { name := "<init>", desc := "()V", sig := { parameters := [], returnType := none }, accessFlags := 1, code := some k0c0 }
/-- java/lang/Object -/
def k0 : Class := { plain "java/lang/Object" none with
  accessFlags := 33
  interfaces := #[]
  cf := some (fileOf pool0 8 #[] #[{ accessFlags := 1, nameIndex := 5, descriptorIndex := 6, attributes := #[] }] 33 0 #[] #[])
  fields := #[]
  methods := #[k0m0]
  instanceTypes := #[]
  staticTypes := #[]
  resolved := Array.replicate 124 none
  statics := none }

def pool1 : Array CpInfo := pool [(2, .class_ 4), (1, u "java/lang/Object"), (0, u "<init>"), (0, u "()V"), (0, .class_ 8), (0, u "com/example/keelbook/keelbook/store/Audit$Summary"), (0, .methodref 7 10), (0, .nameAndType 5 11), (0, u "(JJJJJ)V"), (0, .methodref 7 13), (0, .nameAndType 14 15), (0, u "ok"), (0, u "()Z"), (0, .class_ 17), (0, u "com/example/keelbook/keelbook/store/SummaryOkPinLaw"), (2, u "law"), (0, u "(JJJJJI)Z")] 7

def k1m0 : Method := { name := "<init>", desc := "()V", sig := { parameters := [], returnType := none }, accessFlags := 2, code := none }
def k1c1 : Code := { maxStack := 12, maxLocals := 20, code := code, exceptionTable := #[], attributes := #[] }
def k1m1 : Method := { name := "law", desc := "(JJJJJI)Z", sig := { parameters := [.long, .long, .long, .long, .long, .int], returnType := some .boolean }, accessFlags := 9, code := some k1c1 }
/-- com/example/keelbook/keelbook/store/SummaryOkPinLaw -/
def k1 : Class := { plain "com/example/keelbook/keelbook/store/SummaryOkPinLaw" (some 0) with
  accessFlags := 49
  interfaces := #[]
  cf := some (fileOf pool1 16 #[] #[{ accessFlags := 2, nameIndex := 5, descriptorIndex := 6, attributes := #[] }, { accessFlags := 9, nameIndex := 20, descriptorIndex := 21, attributes := #[] }] 49 2 #[] #[])
  fields := #[]
  methods := #[k1m0, k1m1]
  instanceTypes := #[]
  staticTypes := #[]
  resolved := Array.replicate 29 none
  statics := none }

def pool2 : Array CpInfo := pool [(1, .methodref 2 3), (0, .class_ 4), (0, .nameAndType 5 6), (0, u "java/lang/Object"), (0, u "<init>"), (0, u "()V"), (0, .class_ 8), (0, u "java/lang/Record")] 13

def k2c0 : Code := { maxStack := 1, maxLocals := 1, code := jdk_30_method_1_code, exceptionTable := #[], attributes := #[] }
def k2m0 : Method := { name := "<init>", desc := "()V", sig := { parameters := [], returnType := none }, accessFlags := 4, code := some k2c0 }
/-- java/lang/Record -/
def k2 : Class := { plain "java/lang/Record" (some 0) with
  accessFlags := 1057
  interfaces := #[]
  cf := some (fileOf pool2 7 #[] #[{ accessFlags := 4, nameIndex := 5, descriptorIndex := 6, attributes := #[] }] 1057 2 #[] #[])
  fields := #[]
  methods := #[k2m0]
  instanceTypes := #[]
  staticTypes := #[]
  resolved := Array.replicate 22 none
  statics := none }

def pool3 : Array CpInfo := pool [(1, .methodref 2 3), (0, .class_ 4), (0, .nameAndType 5 6), (0, u "java/lang/Record"), (0, u "<init>"), (0, u "()V"), (0, .fieldref 8 9), (0, .class_ 10), (0, .nameAndType 11 12), (0, u "com/example/keelbook/keelbook/store/Audit$Summary"), (0, u "transactions"), (0, u "J"), (0, .fieldref 8 14), (0, .nameAndType 15 12), (0, u "unbalancedTransactions"), (0, .fieldref 8 17), (0, .nameAndType 18 12), (0, u "malformedTransactions"), (0, .fieldref 8 20), (0, .nameAndType 21 12), (0, u "accounts"), (0, .fieldref 8 23), (0, .nameAndType 24 12), (0, u "balanceMismatches"), (12, u "(JJJJJ)V"), (3, u "ok"), (0, u "()Z"), (8, .class_ 52), (0, u "com/example/keelbook/keelbook/store/Audit")] 23

def k3c0 : Code := { maxStack := 3, maxLocals := 11, code := prog_29_method_1_code, exceptionTable := #[], attributes := #[] }
def k3m0 : Method := { name := "<init>", desc := "(JJJJJ)V", sig := { parameters := [.long, .long, .long, .long, .long], returnType := none }, accessFlags := 1, code := some k3c0 }
def k3c1 : Code := { maxStack := 4, maxLocals := 1, code := prog_29_method_2_code, exceptionTable := #[], attributes := #[] }
def k3m1 : Method := { name := "ok", desc := "()Z", sig := { parameters := [], returnType := some .boolean }, accessFlags := 1, code := some k3c1 }
/-- com/example/keelbook/keelbook/store/Audit$Summary -/
def k3 : Class := { plain "com/example/keelbook/keelbook/store/Audit$Summary" (some 2) with
  accessFlags := 49
  interfaces := #[]
  cf := some (fileOf pool3 8 #[.nestHost 51] #[{ accessFlags := 1, nameIndex := 5, descriptorIndex := 37, attributes := #[] }, { accessFlags := 1, nameIndex := 41, descriptorIndex := 42, attributes := #[] }] 49 2 #[] #[{ accessFlags := 18, nameIndex := 11, descriptorIndex := 12, attributes := #[] }, { accessFlags := 18, nameIndex := 15, descriptorIndex := 12, attributes := #[] }, { accessFlags := 18, nameIndex := 18, descriptorIndex := 12, attributes := #[] }, { accessFlags := 18, nameIndex := 21, descriptorIndex := 12, attributes := #[] }, { accessFlags := 18, nameIndex := 24, descriptorIndex := 12, attributes := #[] }])
  fields := #[{ name := "transactions", type := .long, accessFlags := 18, slot := 0, constantValue := 0 }, { name := "unbalancedTransactions", type := .long, accessFlags := 18, slot := 1, constantValue := 0 }, { name := "malformedTransactions", type := .long, accessFlags := 18, slot := 2, constantValue := 0 }, { name := "accounts", type := .long, accessFlags := 18, slot := 3, constantValue := 0 }, { name := "balanceMismatches", type := .long, accessFlags := 18, slot := 4, constantValue := 0 }]
  methods := #[k3m0, k3m1]
  instanceTypes := #[.long, .long, .long, .long, .long]
  staticTypes := #[]
  resolved := Array.replicate 76 none
  statics := none }

def pool4 : Array CpInfo := pool [(1, u "java/lang/Cloneable"), (0, .class_ 1), (0, u "java/lang/Object"), (0, .class_ 3)] 3

/-- java/lang/Cloneable -/
def k4 : Class := { plain "java/lang/Cloneable" (some 0) with
  accessFlags := 1537
  interfaces := #[]
  cf := some (fileOf pool4 2 #[] #[] 1537 4 #[] #[])
  fields := #[]
  methods := #[]
  instanceTypes := #[]
  staticTypes := #[]
  resolved := Array.replicate 8 none
  statics := none }

def pool5 : Array CpInfo := pool [(1, u "java/io/Serializable"), (0, .class_ 1), (0, u "java/lang/Object"), (0, .class_ 3)] 3

/-- java/io/Serializable -/
def k5 : Class := { plain "java/io/Serializable" (some 0) with
  accessFlags := 1537
  interfaces := #[]
  cf := some (fileOf pool5 2 #[] #[] 1537 4 #[] #[])
  fields := #[]
  methods := #[]
  instanceTypes := #[]
  staticTypes := #[]
  resolved := Array.replicate 8 none
  statics := none }

/-- the primitive byte -/
def k6 : Class := { plain "byte" none with kind := .primitive 'B', accessFlags := 0x411 }
/-- [B -/
def k7 : Class := { plain "[B" (some 0) with kind := .array 6 .byte, interfaces := #[4, 5], accessFlags := 1041 }

/-- the primitive int -/
def k8 : Class := { plain "int" none with kind := .primitive 'I', accessFlags := 0x411 }
/-- [I -/
def k9 : Class := { plain "[I" (some 0) with kind := .array 8 .int, interfaces := #[4, 5], accessFlags := 1041 }

def heap : Heap := #[]
def classes : Array Class := #[k0, k1, k2, k3, k4, k5, k6, k7, k8, k9]
def interned : List (Array UInt16 × Addr) := []
def slotsUsed : Nat := 0
def theMethod : MethodId := ⟨1, 1⟩
def args0 : Array Value := #[.long 5, .long 0, .long 0, .long 1, .long 2, .int 3]
def aboutOver (below : List Frame) : State where
  vm := { classes := classes, interned := interned.toArray }
  heap := heap
  slotsUsed := slotsUsed
  threads := #[{ frames := .invoking theMethod args0 :: below }]
def below0 : List Frame := [.native { method := ⟨0, 0⟩, args := #[] }]
def about1 : State := aboutOver below0
def p0 : Program := .bare "" "" ""
def e0 : Env := launch0.env 0 0 0
theorem w_frames : about1.frames = Frame.invoking theMethod args0 :: below0 := rfl
set_option maxRecDepth 65536 in
theorem w_args : argsFit about1.vm theMethod args0 = true := by decide +kernel
set_option maxRecDepth 65536 in
theorem w_heap : heapFits about1 = true := by decide +kernel
set_option maxRecDepth 65536 in
theorem w_runnable : about1.curStatus? = some .runnable := by decide +kernel
set_option maxRecDepth 65536 in
theorem w_alone : about1.alone = true := by decide +kernel
set_option maxRecDepth 65536 in
theorem w_named : about1.methodNamed? x = some theMethod := by decide +kernel
set_option maxRecDepth 65536 in
theorem w_hears : about1.hears theMethod below0 = true := by decide +kernel
set_option maxRecDepth 65536 in
theorem w_ripe : about1.ripe theMethod args0 below0 = true := by decide +kernel
theorem w_running : about1.status = .running := rfl
set_option maxRecDepth 65536 in
theorem w_room : about1.hasRoom e0.platform room_1 = true :=
  launch0.hasRoom_least _ room_1 (by decide +kernel) (by decide +kernel) (by decide +kernel) (by decide +kernel) (by decide +kernel) (by decide +kernel)
theorem allAtoms_all (ts : List Jvm.Cond) (a : Array Jvm.Value) (st : Jvm.State) : (allAtoms ts).before a st = ts.all (fun c => c.before a st) := by
  induction ts with
  | nil => rfl
  | cons c t ih =>
    show (Jvm.Cond.and c (allAtoms t)).before a st = _
    rw [Jvm.Cond.before_and, ih, List.all_cons]
def words1 : List Jvm.Cond := Jvm.Cond.code x code maxLocals ret :: tables_1
/-- a 'code' word, met by the world's own term for the bytes: nothing is compared byte by byte -/
theorem code_word {y : MethodName} {bytes : ByteArray} {mx : Nat} {rt : Option FieldType} {a : Array Value} {s : State} {m : MethodId} {meth : Method} {c : Code} (h1 : s.methodNamed? y = some m) (h2 : s.vm.method? m = some meth) (h3 : meth.code = some c) (h4 : c.code = bytes)
    (h5 : (c.maxLocals == mx && c.exceptionTable.isEmpty && decide (c.maxStack ≤ mostOperands) && decide (meth.sig.returnType = rt) && !meth.locks && decide (parseMethodDescriptor y.desc = some meth.sig)) = true) : (Jvm.Cond.code y bytes mx rt).before a s = true := by
  simp only [Bool.and_eq_true, beq_iff_eq, Bool.not_eq_true', decide_eq_true_eq] at h5
  obtain ⟨⟨⟨⟨⟨g1, g2⟩, g3⟩, g4⟩, g5⟩, g6⟩ := h5
  simp [Cond.before, Cond.holds, Cond.value, h1, h2, h3, h4, g1, g2, g3, g4, g5, g6]
def isCode : Jvm.Cond → Bool
  | .code _ _ _ _ => true
  | _ => false
theorem all_split {L : List Jvm.Cond} {P : Jvm.Cond → Bool} (h1 : L.all (fun c => isCode c || P c) = true) (h2 : ∀ c ∈ L.filter isCode, P c = true) : L.all P = true := by
  refine List.all_eq_true.mpr fun c hc => ?_
  have h := List.all_eq_true.mp h1 c hc
  rcases Bool.eq_false_or_eq_true (isCode c) with hi | hi
  · exact h2 c (List.mem_filter.mpr ⟨hc, hi⟩)
  · simpa [hi] using h
set_option maxRecDepth 65536 in
theorem w_c0 : (Jvm.Cond.code x code maxLocals ret).before args0 about1 = true := code_word (m := ⟨1, 1⟩) (meth := k1m1) (c := k1c1) (by decide +kernel) rfl rfl rfl (by decide +kernel)
set_option maxRecDepth 65536 in
theorem w_c1 : (Jvm.Cond.code ({ cls := "com/example/keelbook/keelbook/store/Audit$Summary", name := "<init>", desc := "(JJJJJ)V" } : Jvm.MethodName) prog_29_method_1_code (11 : Nat) (Option.none : Option Jvm.ClassFile.FieldType)).before args0 about1 = true := code_word (m := ⟨3, 0⟩) (meth := k3m0) (c := k3c0) (by decide +kernel) rfl rfl rfl (by decide +kernel)
set_option maxRecDepth 65536 in
theorem w_c2 : (Jvm.Cond.code ({ cls := "java/lang/Record", name := "<init>", desc := "()V" } : Jvm.MethodName) jdk_30_method_1_code (1 : Nat) (Option.none : Option Jvm.ClassFile.FieldType)).before args0 about1 = true := code_word (m := ⟨2, 0⟩) (meth := k2m0) (c := k2c0) (by decide +kernel) rfl rfl rfl (by decide +kernel)
set_option maxRecDepth 65536 in
theorem w_c3 : (Jvm.Cond.code ({ cls := "java/lang/Object", name := "<init>", desc := "()V" } : Jvm.MethodName) object_method_1_code (1 : Nat) (Option.none : Option Jvm.ClassFile.FieldType)).before args0 about1 = true := code_word (m := ⟨0, 0⟩) (meth := k0m0) (c := k0c0) (by decide +kernel) rfl rfl rfl (by decide +kernel)
set_option maxRecDepth 65536 in
theorem w_c4 : (Jvm.Cond.code ({ cls := "com/example/keelbook/keelbook/store/Audit$Summary", name := "ok", desc := "()Z" } : Jvm.MethodName) prog_29_method_2_code (1 : Nat) (Option.some Jvm.ClassFile.FieldType.boolean)).before args0 about1 = true := code_word (m := ⟨3, 1⟩) (meth := k3m1) (c := k3c1) (by decide +kernel) rfl rfl rfl (by decide +kernel)
def codes1 : List Jvm.Cond := [Jvm.Cond.code x code maxLocals ret, Jvm.Cond.code ({ cls := "com/example/keelbook/keelbook/store/Audit$Summary", name := "<init>", desc := "(JJJJJ)V" } : Jvm.MethodName) prog_29_method_1_code (11 : Nat) (Option.none : Option Jvm.ClassFile.FieldType), Jvm.Cond.code ({ cls := "java/lang/Record", name := "<init>", desc := "()V" } : Jvm.MethodName) jdk_30_method_1_code (1 : Nat) (Option.none : Option Jvm.ClassFile.FieldType), Jvm.Cond.code ({ cls := "java/lang/Object", name := "<init>", desc := "()V" } : Jvm.MethodName) object_method_1_code (1 : Nat) (Option.none : Option Jvm.ClassFile.FieldType), Jvm.Cond.code ({ cls := "com/example/keelbook/keelbook/store/Audit$Summary", name := "ok", desc := "()Z" } : Jvm.MethodName) prog_29_method_2_code (1 : Nat) (Option.some Jvm.ClassFile.FieldType.boolean)]
set_option maxRecDepth 65536 in
theorem codes_eq : words1.filter isCode = codes1 := rfl
theorem w_codes : ∀ c ∈ words1.filter isCode, c.before args0 about1 = true := by
  rw [codes_eq]
  intro c hc
  simp only [codes1, List.mem_cons, List.not_mem_nil, or_false] at hc
  rcases hc with rfl | rfl | rfl | rfl | rfl
  · exact w_c0
  · exact w_c1
  · exact w_c2
  · exact w_c3
  · exact w_c4
set_option maxRecDepth 65536 in
theorem w_t1 : (words1.take 24).all (fun c => isCode c || c.before args0 about1) = true := by decide +kernel
set_option maxRecDepth 65536 in
theorem w_t2 : (words1.drop 24).all (fun c => isCode c || c.before args0 about1) = true := by decide +kernel
theorem w_tables : (allAtoms (Jvm.Cond.code x code maxLocals ret :: tables_1)).before args0 about1 = true := by
  rw [allAtoms_all]
  show words1.all (fun c => c.before args0 about1) = true
  refine all_split ?_ w_codes
  rw [← List.take_append_drop 24 words1, List.all_append, w_t1, w_t2]
  rfl
set_option maxRecDepth 65536 in
theorem w_case : (Jvm.Cond.and given_1 narrow_1).before args0 about1 = true := by decide +kernel
theorem w_applies : (headSpec (Jvm.Cond.code x code maxLocals ret :: tables_1) room_1).applies x e0.platform about1 = true :=
  (Spec.applies_iff w_frames).mpr ⟨w_running, w_runnable, w_alone, w_named, w_hears, w_ripe, w_room, w_tables⟩
theorem atStart : AtStart classFile x code maxLocals ret World_1 tables_1 room_1 Calls_1 rest_1 Pre_1 launch0 p0 e0 about1 theMethod args0 below0 :=
  ⟨lists_1, trivial, launch0.admits_env _ _ _, launch0.least_env, fairChoices_fair.cas, fairChoices_fair.clock, w_frames, w_args, w_heap, w_applies, trivial, trivial, w_case⟩
end start1
theorem witness_1 : WitnessClaimed_1 := ⟨start1.p0, start1.e0, start1.about1, start1.theMethod, start1.args0, start1.below0, start1.atStart⟩
end Jvm.Pilot.@@N@@
