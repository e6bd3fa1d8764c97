import JvmDerived
import JvmDerived.Pilot.@@N@@Statement
import JvmDerived.Pilot.@@N@@Code
set_option linter.unusedVariables false
set_option linter.unusedSimpArgs false
namespace Jvm.RoadKit
open Sem ClassFile Op Lib Jvm.Stand Jvm.Free Jvm.LawKit
section New
variable {p : Program} {l : Launch} {e : Env} {R : Room} {s : State} {m : MethodId} {args : Array Value} {below : List Frame} {meth : Method} {c : Code} {T : State} {locs : List Loc} {cells slots : Nat}
theorem retI (X : Stand p l e R s m args below meth c T locs cells slots) (hx : p.tables.exec = Jvm.exec) {pc : Nat} {Ls : Array Slot} {z : Int32} {rest : List Value} (hret : meth.sig.returnType = some .int) (hd : decode c.code pc = .ok (.ireturn, 1)) {fs : List Frame}
    (hl : ∀ (f : JFrame) (acts : List Action), f.method = m → f.locked = none → f.entered = [] → (doReturn e (T.setTop f) acts (some (.int z))).1 = T.setFrames fs) : Steps p.tables e below (T.setTop (mkF m pc Ls (.int z :: rest))) (T.setFrames fs) := by
  have hm' : T.vm.method? m = some meth := X.method'
  have hn : narrow .int (.int z) = .int z := rfl
  show Steps p.tables e below (T.setTop { method := m, pc := pc, locals := Ls, stack := _ :: rest, locked := none }) _
  jvm_step X.here [X.here.top, hx, hd, hm', hret, hn]
  first | (intro acts; rw [hl _ acts rfl rfl rfl]) | rw [hl _ _ rfl rfl rfl]
  exact Steps.refl _
end New
theorem own_sta_keep {Z : State} {h h' : Heap} {C n d : String} {v : Value} {ws : List Addr} (F : Sta Z h C n d v) (K : Keep h h' ws) (q : ∀ x ∈ ws, ∀ c : Cell, h[x]? = some c → c.vm.isStatics = false) : Sta Z h' C n d v := by
  obtain ⟨cf, i, k, f, st, cell, h1, h2, h3, h4, h5, h6, h7⟩ := F
  exact ⟨cf, i, k, f, st, cell, h1, h2, h3, h4, K.2.1 st cell h5 (fun hm => by rw [q st hm cell h5] at h6; cases h6), h6, h7⟩
theorem own_plain_Exa {Z : State} {h : Heap} {a : Addr} {C : String} (F : Exa Z h a C) : ∀ c : Cell, h[a]? = some c → c.vm.isStatics = false := fun c hc => by
  obtain ⟨cell, _, h1, -, -, h4, -⟩ := F
  cases h1.symm.trans hc; exact h4
theorem own_plain_Arv {Z : State} {h : Heap} {a : Addr} {k : ClassId} {ty : FieldType} {n : Int32} {vs : List Value} {d : Value} (F : Arv Z h a k ty n vs d) : ∀ c : Cell, h[a]? = some c → c.vm.isStatics = false := fun c hc => by
  obtain ⟨cell, A, -⟩ := F
  cases A.1.symm.trans hc; exact A.plain
end Jvm.RoadKit
namespace Jvm.Pilot.@@N@@
open Jvm Jvm.ClassFile Sem Op Lib Jvm.Free Jvm.Stand Jvm.LawKit Jvm.RoadKit Bundle Jvm.Pilot.@@N@@.Jvm.D
def bI (P : Prop) [Decidable P] : Int32 := if P then 1 else 0
theorem bI_eq {P Q : Prop} [Decidable P] [Decidable Q] : bI P = bI Q ↔ (P ↔ Q) := by unfold bI; by_cases h : P <;> by_cases g : Q <;> simp [h, g]
theorem bI_eq1 {P : Prop} [Decidable P] : bI P = 1 ↔ P := by unfold bI; by_cases h : P <;> simp [h]
theorem bI_1eq {P : Prop} [Decidable P] : 1 = bI P ↔ P := by unfold bI; by_cases h : P <;> simp [h]
theorem bI_eq0 {P : Prop} [Decidable P] : bI P = 0 ↔ (P ↔ False) := by unfold bI; by_cases h : P <;> simp [h]
theorem bI_0eq {P : Prop} [Decidable P] : 0 = bI P ↔ (False ↔ P) := by unfold bI; by_cases h : P <;> simp [h]
theorem bI_t {P : Prop} [Decidable P] (h : P) : bI P = 1 := if_pos h
theorem bI_f {P : Prop} [Decidable P] (h : ¬ P) : bI P = 0 := if_neg h
theorem bI_iff {P Q : Prop} [Decidable P] [Decidable Q] (h : P ↔ Q) : bI P = bI Q := bI_eq.mpr h
theorem imp_iff_h {P Q : Prop} (h : P) : (P → Q) ↔ Q := ⟨fun f => f h, fun q _ => q⟩
theorem sel_t {P A B : Prop} (h : P) : ((P ∧ A) ∨ (¬ P ∧ B)) ↔ A := ⟨fun q => q.elim (fun z => z.2) (fun z => absurd h z.1), fun a => Or.inl ⟨h, a⟩⟩
theorem sel_f {P A B : Prop} (h : ¬ P) : ((P ∧ A) ∨ (¬ P ∧ B)) ↔ B := ⟨fun q => q.elim (fun z => absurd z.1 h) (fun z => z.2), fun b => Or.inr ⟨h, b⟩⟩
theorem bB_eq_t {P : Prop} [Decidable P] (h : ¬ P) : ifCond.holds .eq (bI P) = true := by rw [bI_f h]; rfl
theorem bB_eq_f {P : Prop} [Decidable P] (h : P) : ifCond.holds .eq (bI P) = false := by rw [bI_t h]; rfl
theorem bB_ne_t {P : Prop} [Decidable P] (h : P) : ifCond.holds .ne (bI P) = true := by rw [bI_t h]; rfl
theorem bB_ne_f {P : Prop} [Decidable P] (h : ¬ P) : ifCond.holds .ne (bI P) = false := by rw [bI_f h]; rfl
theorem bI_nar {P : Prop} [Decidable P] : nar .boolean (bI P) = bI P := by by_cases h : P <;> simp only [bI, h, if_true, if_false] <;> rfl
theorem bI_ret {P : Prop} [Decidable P] : (some (.int (nar .boolean (bI P))) : Option Value) = some (.int (bI P)) := by rw [bI_nar]
theorem bI_one {P : Prop} [Decidable P] (h : P) : (some (.int (nar .boolean (bI P))) : Option Value) = some (.int 1) := by rw [bI_nar, bI_t h]
theorem own_ite_ref {P : Prop} [Decidable P] {x y : Value} (h : x.isRef = true) (g : y.isRef = true) : (if P then x else y).isRef = true := by by_cases q : P <;> simp [q, h, g]
theorem own_fits_ref {t : FieldType} {x : Value} (ht : t.isReference = true) (h : x.isRef = true) : fits t x = true := by cases t <;> first | (cases ht; done) | (cases x <;> simp_all [fits, Value.isRef])
theorem own_eqI {args : Array Value} {s : State} {t : Term} {k : Int32} (h : (Cond.eq t (.int k)).value args s none s [] = some true) : t.eval args s none [] s = some (.int k) := by
  simp only [Cond.value, Term.eval] at h
  cases ht : t.eval args s none [] s with
  | none => simp [ht] at h
  | some v => cases v <;> simp [ht] at h ⊢; exact h
theorem own_eqR {args : Array Value} {s : State} {t u : Term} {v : Value} (hu : u.eval args s none [] s = some v) (hv : v.isRef = true) (h : (Cond.eq t u).value args s none s [] = some true) : t.eval args s none [] s = some v := by
  cases ht : t.eval args s none [] s with
  | none => simp [Cond.value, ht, hu] at h
  | some x =>
    rcases ref_cases hv with rfl | ⟨a, rfl⟩ <;> cases x <;> simp [Cond.value, ht, hu] at h ⊢ <;> exact h
theorem own_len {args : Array Value} {s : State} {t : Term} {a : Addr} {c : Cell} {ty : FieldType} {k : Int32} (ev : t.eval args s none [] s = some (.ref a)) (A : Arr s s.heap a c ty) (h : (Term.length t).eval args s none [] s = some (.int k)) : c.slots.size < 2 ^ 31 ∧ c.slots.size.toInt32 = k := by
  have ha := A.fin (Vm.Alike.refl _)
  by_cases q : c.slots.size < 2 ^ 31
  · rw [len_f ev ha q] at h; exact ⟨q, by injection h with h; injection h⟩
  · simp [Term.eval, ev, ha, q] at h

theorem d1_0 : decode prog_8_method_5_code 0 = .ok (.aload_n 0, 1) := by decide +kernel
theorem d1_1 : decode prog_8_method_5_code 1 = .ok (.getstatic 3, 3) := by decide +kernel
theorem d1_4 : decode prog_8_method_5_code 4 = .ok (.if_acmp .ne 9, 3) := by decide +kernel
theorem d1_7 : decode prog_8_method_5_code 7 = .ok (.getstatic 7, 3) := by decide +kernel
theorem d1_10 : decode prog_8_method_5_code 10 = .ok (.goto 6, 3) := by decide +kernel
theorem d1_16 : decode prog_8_method_5_code 16 = .ok (.areturn, 1) := by decide +kernel
theorem pn_1 : plainName "com/example/keelbook/keelbook/core/Direction" = true := by first | (simp [plainName, overriddenIn]; done) | decide +kernel
theorem ef_rm1D (m : MethodId) (x0 : Addr) : entryFrame m #[(.ref x0)] 1 = mkF m 0 #[.val (.ref x0)] [] := by first | (simp [entryFrame, mkF, argsToLocals, Value.category]; done) | rfl
def Q1D (Z : State) (aD : Addr) (aC : Addr) (h0 : Heap) (n0 : Nat) (v : Option Value) (h : Heap) (L : List Loc) : Prop := v = some (.ref aC) ∧ Fr n0 L ∧ h = h0
set_option maxRecDepth 65536 in
set_option maxHeartbeats 40000000 in
theorem rm1D (l : Launch) (Z : State) (a0 : Array Value) (hw : ∀ d ∈ tables_1, d.before a0 Z = true) (ws : List Jvm.Cond) (aD : Addr) (aC : Addr) (h0 : Heap) (n0 : Nat) (Z0 : n0 ≤ h0.size) (S_DEBIT : Sta Z h0 "com/example/keelbook/keelbook/core/Direction" "DEBIT" "Lcom/example/keelbook/keelbook/core/Direction;" (.ref aD)) (S_CREDIT : Sta Z h0 "com/example/keelbook/keelbook/core/Direction" "CREDIT" "Lcom/example/keelbook/keelbook/core/Direction;" (.ref aC)) (E_DEBIT : Exa Z h0 aD "com/example/keelbook/keelbook/core/Direction") (E_CREDIT : Exa Z h0 aC "com/example/keelbook/keelbook/core/Direction") (hne : aC ≠ aD) :
    MetFree l (⟨"com/example/keelbook/keelbook/core/Direction", "opposite", "()Lcom/example/keelbook/keelbook/core/Direction;"⟩ : MethodName) (head1 (Jvm.Cond.code (⟨"com/example/keelbook/keelbook/core/Direction", "opposite", "()Lcom/example/keelbook/keelbook/core/Direction;"⟩ : MethodName) prog_8_method_5_code 1 (some (.object "com/example/keelbook/keelbook/core/Direction")) :: ws) ({ frames := 0, cells := 0, slots := 0, locals := 0 } : Room)) (fun ar UU => ar = #[(.ref aD)] ∧ Z.Warmed39 UU.vm ∧ UU.heap = h0) (fun _ _ _ _ _ => True) (fun _ UU oo UU' => ∃ vv LL, oo = .returned vv ∧ Q1D Z aD aC h0 n0 vv UU'.heap LL ∧ FrameEnd UU oo UU' LL ({ frames := 0, cells := 0, slots := 0, locals := 0 } : Room).cells ({ frames := 0, cells := 0, slots := 0, locals := 0 } : Room).slots) := by
  refine MetFree.of_bodySF (plainFor_of_name pn_1) hisR ?_
  intro p e s m args below meth c s₁ Bd hml0 hP hK
  obtain ⟨rfl, hZ, hh⟩ := hP
  have hx := Bd.exec
  have hby := Bd.bytes
  have hml : c.maxLocals = 1 := hml0
  have hown : s.vm.findClass "com/example/keelbook/keelbook/core/Direction" = some m.cls := findClass_of_methodNamed Bd.named
  have hnm := (name_of_methodNamed Bd.named Bd.method).1
  have X0 : Stand p l e ({ frames := 0, cells := 0, slots := 0, locals := 0 } : Room) s m #[(.ref aD)] below meth c s₁ [] 0 0 := Stand.of_body Bd
  have e0 : s₁.heap = h0 := by rw [← hh, Bd.state]; rfl
  have N0 := Fr.nil n0
  have KC0 : Keep h0 h0 [] := Keep.refl h0 []
  have pre0 : ∀ tgt, Steps p.tables e below (s₁.setTop (mkF m 0 #[.val (.ref aD)] [])) tgt → Steps p.tables e below (s₁.setTop (entryFrame m #[(.ref aD)] 1)) tgt := fun tgt kk => castTop (ef_rm1D m (aD)) kk
  have pre1 : ∀ tgt, Steps p.tables e below (s₁.setTop (mkF m 1 #[.val (.ref aD)] [(.ref aD)])) tgt → Steps p.tables e below (s₁.setTop (entryFrame m #[(.ref aD)] 1)) tgt := by
    intro tgt kk
    refine pre0 tgt ?_
    refine XS.aloadN X0.here hx rfl (hb hby d1_0) rfl rfl ?_
    show Steps p.tables e below (s₁.setTop (mkF m 1 #[.val (.ref aD)] [(.ref aD)])) _
    exact kk
  obtain ⟨T2, X2, e2, st2⟩ := getS X0 hx hZ hown (host := "") (hw _ (List.mem_of_getElem? (i := 10) rfl)) Via.refl e0 S_DEBIT (g := (mkF m 1 #[.val (.ref aD)] [(.ref aD)])) rfl (hb hby d1_1)
  have pre3 : ∀ tgt, Steps p.tables e below (T2.setTop (mkF m 7 #[.val (.ref aD)] [])) tgt → Steps p.tables e below (s₁.setTop (entryFrame m #[(.ref aD)] 1)) tgt := by
    intro tgt kk
    refine pre1 tgt ?_
    refine st2 _ ?_
    show Steps p.tables e below (T2.setTop (mkF m 4 #[.val (.ref aD)] [(.ref aD), (.ref aD)])) _
    refine XT.acmpNo X2.here hx rfl (hb hby d1_4) rfl rfl rfl (XT.aa_ne_f rfl) ?_
    show Steps p.tables e below (T2.setTop (mkF m 7 #[.val (.ref aD)] [])) _
    exact kk
  obtain ⟨T4, X4, e4, st4⟩ := getS X2 hx hZ hown (host := "") (hw _ (List.mem_of_getElem? (i := 11) rfl)) Via.refl e2 S_CREDIT (g := (mkF m 7 #[.val (.ref aD)] [])) rfl (hb hby d1_7)
  obtain ⟨fs, hr, hrun, hended, hW, hsame⟩ := X4.leave (v := some (.ref aC)) (fun h => by rw [Bd.returns] at h; cases h)
  refine ⟨_, _, pre3 _ ?_, hrun, hended, _, _, rfl, ?_, ⟨_, rfl⟩, hW, hsame.mono (by decide) (by decide)⟩
  · skip
    refine st4 _ ?_
    show Steps p.tables e below (T4.setTop (mkF m 10 #[.val (.ref aD)] [(.ref aC)])) _
    refine XS.goto X4.here hx rfl (pc0 := 10) (pc' := 16) rfl (hb hby d1_10) (by decide) (by decide) ?_
    show Steps p.tables e below (T4.setTop (mkF m 16 #[.val (.ref aD)] [(.ref aC)])) _
    exact retOut X4 hx Bd.returns rfl (Or.inr (Or.inr (Or.inr (Or.inr ⟨rfl, rfl, rfl⟩)))) (hb hby d1_16) hr
  · show Q1D Z aD aC h0 n0 _ T4.heap _
    rw [e4]
    exact ⟨rfl, N0, rfl⟩
theorem d1_13 : decode prog_8_method_5_code 13 = .ok (.getstatic 3, 3) := by decide +kernel
theorem ef_rm1C (m : MethodId) (x0 : Addr) : entryFrame m #[(.ref x0)] 1 = mkF m 0 #[.val (.ref x0)] [] := by first | (simp [entryFrame, mkF, argsToLocals, Value.category]; done) | rfl
def Q1C (Z : State) (aD : Addr) (aC : Addr) (h0 : Heap) (n0 : Nat) (v : Option Value) (h : Heap) (L : List Loc) : Prop := v = some (.ref aD) ∧ Fr n0 L ∧ h = h0
set_option maxRecDepth 65536 in
set_option maxHeartbeats 40000000 in
theorem rm1C (l : Launch) (Z : State) (a0 : Array Value) (hw : ∀ d ∈ tables_1, d.before a0 Z = true) (ws : List Jvm.Cond) (aD : Addr) (aC : Addr) (h0 : Heap) (n0 : Nat) (Z0 : n0 ≤ h0.size) (S_DEBIT : Sta Z h0 "com/example/keelbook/keelbook/core/Direction" "DEBIT" "Lcom/example/keelbook/keelbook/core/Direction;" (.ref aD)) (S_CREDIT : Sta Z h0 "com/example/keelbook/keelbook/core/Direction" "CREDIT" "Lcom/example/keelbook/keelbook/core/Direction;" (.ref aC)) (E_DEBIT : Exa Z h0 aD "com/example/keelbook/keelbook/core/Direction") (E_CREDIT : Exa Z h0 aC "com/example/keelbook/keelbook/core/Direction") (hne : aC ≠ aD) :
    MetFree l (⟨"com/example/keelbook/keelbook/core/Direction", "opposite", "()Lcom/example/keelbook/keelbook/core/Direction;"⟩ : MethodName) (head1 (Jvm.Cond.code (⟨"com/example/keelbook/keelbook/core/Direction", "opposite", "()Lcom/example/keelbook/keelbook/core/Direction;"⟩ : MethodName) prog_8_method_5_code 1 (some (.object "com/example/keelbook/keelbook/core/Direction")) :: ws) ({ frames := 0, cells := 0, slots := 0, locals := 0 } : Room)) (fun ar UU => ar = #[(.ref aC)] ∧ Z.Warmed39 UU.vm ∧ UU.heap = h0) (fun _ _ _ _ _ => True) (fun _ UU oo UU' => ∃ vv LL, oo = .returned vv ∧ Q1C Z aD aC h0 n0 vv UU'.heap LL ∧ FrameEnd UU oo UU' LL ({ frames := 0, cells := 0, slots := 0, locals := 0 } : Room).cells ({ frames := 0, cells := 0, slots := 0, locals := 0 } : Room).slots) := by
  refine MetFree.of_bodySF (plainFor_of_name pn_1) hisR ?_
  intro p e s m args below meth c s₁ Bd hml0 hP hK
  obtain ⟨rfl, hZ, hh⟩ := hP
  have hx := Bd.exec
  have hby := Bd.bytes
  have hml : c.maxLocals = 1 := hml0
  have hown : s.vm.findClass "com/example/keelbook/keelbook/core/Direction" = some m.cls := findClass_of_methodNamed Bd.named
  have hnm := (name_of_methodNamed Bd.named Bd.method).1
  have X0 : Stand p l e ({ frames := 0, cells := 0, slots := 0, locals := 0 } : Room) s m #[(.ref aC)] below meth c s₁ [] 0 0 := Stand.of_body Bd
  have e0 : s₁.heap = h0 := by rw [← hh, Bd.state]; rfl
  have N0 := Fr.nil n0
  have KC0 : Keep h0 h0 [] := Keep.refl h0 []
  have pre0 : ∀ tgt, Steps p.tables e below (s₁.setTop (mkF m 0 #[.val (.ref aC)] [])) tgt → Steps p.tables e below (s₁.setTop (entryFrame m #[(.ref aC)] 1)) tgt := fun tgt kk => castTop (ef_rm1C m (aC)) kk
  have pre1 : ∀ tgt, Steps p.tables e below (s₁.setTop (mkF m 1 #[.val (.ref aC)] [(.ref aC)])) tgt → Steps p.tables e below (s₁.setTop (entryFrame m #[(.ref aC)] 1)) tgt := by
    intro tgt kk
    refine pre0 tgt ?_
    refine XS.aloadN X0.here hx rfl (hb hby d1_0) rfl rfl ?_
    show Steps p.tables e below (s₁.setTop (mkF m 1 #[.val (.ref aC)] [(.ref aC)])) _
    exact kk
  obtain ⟨T2, X2, e2, st2⟩ := getS X0 hx hZ hown (host := "") (hw _ (List.mem_of_getElem? (i := 10) rfl)) Via.refl e0 S_DEBIT (g := (mkF m 1 #[.val (.ref aC)] [(.ref aC)])) rfl (hb hby d1_1)
  have hk3 : ¬ (aC = aD) := hne
  have pre4 : ∀ tgt, Steps p.tables e below (T2.setTop (mkF m 13 #[.val (.ref aC)] [])) tgt → Steps p.tables e below (s₁.setTop (entryFrame m #[(.ref aC)] 1)) tgt := by
    intro tgt kk
    refine pre1 tgt ?_
    refine st2 _ ?_
    show Steps p.tables e below (T2.setTop (mkF m 4 #[.val (.ref aC)] [(.ref aD), (.ref aC)])) _
    refine XT.acmpYes X2.here hx rfl (pc0 := 4) (pc' := 13) rfl (hb hby d1_4) rfl rfl rfl (XT.aa_ne_t (fun q => hk3 (Value.ref.inj q))) (by decide) (by decide) ?_
    show Steps p.tables e below (T2.setTop (mkF m 13 #[.val (.ref aC)] [])) _
    exact kk
  obtain ⟨T5, X5, e5, st5⟩ := getS X2 hx hZ hown (host := "") (hw _ (List.mem_of_getElem? (i := 10) rfl)) Via.refl e2 S_DEBIT (g := (mkF m 13 #[.val (.ref aC)] [])) rfl (hb hby d1_13)
  obtain ⟨fs, hr, hrun, hended, hW, hsame⟩ := X5.leave (v := some (.ref aD)) (fun h => by rw [Bd.returns] at h; cases h)
  refine ⟨_, _, pre4 _ ?_, hrun, hended, _, _, rfl, ?_, ⟨_, rfl⟩, hW, hsame.mono (by decide) (by decide)⟩
  · skip
    refine st5 _ ?_
    show Steps p.tables e below (T5.setTop (mkF m 16 #[.val (.ref aC)] [(.ref aD)])) _
    exact retOut X5 hx Bd.returns rfl (Or.inr (Or.inr (Or.inr (Or.inr ⟨rfl, rfl, rfl⟩)))) (hb hby d1_16) hr
  · show Q1C Z aD aC h0 n0 _ T5.heap _
    rw [e5]
    exact ⟨rfl, N0, rfl⟩
theorem pn_0 : plainName "com/example/keelbook/keelbook/core/DirectionOppositePinLaw" = true := by first | (simp [plainName, overriddenIn]; done) | decide +kernel
theorem pd___Lcom_example_keelbook_keelbook_core_Direction_ : parseMethodDescriptor "()Lcom/example/keelbook/keelbook/core/Direction;" = some ⟨[], some (.object "com/example/keelbook/keelbook/core/Direction")⟩ := by decide +kernel
theorem ef_rm0 (m : MethodId) (x0 : Int32) : entryFrame m #[(.int x0)] maxLocals = mkF m 0 #[.val (.int x0), .unset, .unset, .unset, .unset] [] := by first | (simp [entryFrame, mkF, argsToLocals, Value.category, maxLocals]; done) | rfl
def Q0 (Z : State) (p1 : Int32) (aD : Addr) (aC : Addr) (h0 : Heap) (n0 : Nat) (v : Option Value) (h : Heap) (L : List Loc) : Prop := v = some (.int (1 : Int32)) ∧ Fr n0 L
set_option maxRecDepth 65536 in
set_option maxHeartbeats 40000000 in
theorem rm0 (l : Launch) (Z : State) (a0 : Array Value) (hw : ∀ d ∈ tables_1, d.before a0 Z = true) (ws : List Jvm.Cond) (p1 : Int32) (aD : Addr) (aC : Addr) (h0 : Heap) (n0 : Nat) (Z0 : n0 ≤ h0.size) (S_DEBIT : Sta Z h0 "com/example/keelbook/keelbook/core/Direction" "DEBIT" "Lcom/example/keelbook/keelbook/core/Direction;" (.ref aD)) (S_CREDIT : Sta Z h0 "com/example/keelbook/keelbook/core/Direction" "CREDIT" "Lcom/example/keelbook/keelbook/core/Direction;" (.ref aC)) (E_DEBIT : Exa Z h0 aD "com/example/keelbook/keelbook/core/Direction") (E_CREDIT : Exa Z h0 aC "com/example/keelbook/keelbook/core/Direction") (hne : aC ≠ aD) :
    MetFree l x (head1 (Jvm.Cond.code x code maxLocals ret :: ws) room_1) (fun ar UU => ar = #[(.int p1)] ∧ Z.Warmed39 UU.vm ∧ UU.heap = h0) (fun _ _ _ _ _ => True) (fun _ UU oo UU' => ∃ vv LL, oo = .returned vv ∧ Q0 Z p1 aD aC h0 n0 vv UU'.heap LL ∧ FrameEnd UU oo UU' LL room_1.cells room_1.slots) := by
  refine MetFree.of_bodySF (plainFor_of_name pn_0) hisR ?_
  intro p e s m args below meth c s₁ Bd hml0 hP hK
  obtain ⟨rfl, hZ, hh⟩ := hP
  have hx := Bd.exec
  have hby := Bd.bytes
  have hml : c.maxLocals = 5 := hml0
  have hown : s.vm.findClass "com/example/keelbook/keelbook/core/DirectionOppositePinLaw" = some m.cls := findClass_of_methodNamed Bd.named
  have hnm := (name_of_methodNamed Bd.named Bd.method).1
  have X0 : Stand p l e room_1 s m #[(.int p1)] below meth c s₁ [] 0 0 := Stand.of_body Bd
  have e0 : s₁.heap = h0 := by rw [← hh, Bd.state]; rfl
  have N0 := Fr.nil n0
  have KC0 : Keep h0 h0 [] := Keep.refl h0 []
  have pre0 : ∀ tgt, Steps p.tables e below (s₁.setTop (mkF m 0 #[.val (.int p1), .unset, .unset, .unset, .unset] [])) tgt → Steps p.tables e below (s₁.setTop (entryFrame m #[(.int p1)] maxLocals)) tgt := fun tgt kk => castTop (ef_rm0 m (p1)) kk
  have pre1 : ∀ tgt, Steps p.tables e below (s₁.setTop (mkF m 3 #[.val (.int p1), .unset, .unset, .unset, .unset] [(.int (p1 &&& (1 : Int32)))])) tgt → Steps p.tables e below (s₁.setTop (entryFrame m #[(.int p1)] maxLocals)) tgt := by
    intro tgt kk
    refine pre0 tgt ?_
    refine XS.iloadN X0.here hx rfl (hb hby at_0) rfl ?_
    show Steps p.tables e below (s₁.setTop (mkF m 1 #[.val (.int p1), .unset, .unset, .unset, .unset] [(.int p1)])) _
    refine XS.iconst X0.here hx rfl (hb hby at_1) ?_
    show Steps p.tables e below (s₁.setTop (mkF m 2 #[.val (.int p1), .unset, .unset, .unset, .unset] [(.int (1 : Int32)), (.int p1)])) _
    refine XS.iand X0.here hx rfl (hb hby at_2) rfl ?_
    show Steps p.tables e below (s₁.setTop (mkF m 3 #[.val (.int p1), .unset, .unset, .unset, .unset] [(.int (p1 &&& (1 : Int32)))])) _
    exact kk
  by_cases hc3_2 : (p1 &&& (1 : Int32)) = (0 : Int32)
  · skip
    have pre3 : ∀ tgt, Steps p.tables e below (s₁.setTop (mkF m 22 #[.val (.int p1), .val (.int (0 : Int32)), .unset, .unset, .unset] [])) tgt → Steps p.tables e below (s₁.setTop (entryFrame m #[(.int p1)] maxLocals)) tgt := by
      intro tgt kk
      refine pre1 tgt ?_
      refine XS.ifYes X0.here hx rfl (pc0 := 3) (pc' := 10) rfl (hb hby at_3) rfl (XT.i0_eq_t hc3_2) (by decide) (by decide) ?_
      show Steps p.tables e below (s₁.setTop (mkF m 10 #[.val (.int p1), .unset, .unset, .unset, .unset] [])) _
      refine XS.iconst X0.here hx rfl (hb hby at_10) ?_
      show Steps p.tables e below (s₁.setTop (mkF m 11 #[.val (.int p1), .unset, .unset, .unset, .unset] [(.int (0 : Int32))])) _
      refine XS.istoreN X0.here hx rfl (hb hby at_11) rfl (l' := #[.val (.int p1), .val (.int (0 : Int32)), .unset, .unset, .unset]) rfl ?_
      show Steps p.tables e below (s₁.setTop (mkF m 12 #[.val (.int p1), .val (.int (0 : Int32)), .unset, .unset, .unset] [])) _
      refine XS.iloadN X0.here hx rfl (hb hby at_12) rfl ?_
      show Steps p.tables e below (s₁.setTop (mkF m 13 #[.val (.int p1), .val (.int (0 : Int32)), .unset, .unset, .unset] [(.int (0 : Int32))])) _
      refine XS.ifYes X0.here hx rfl (pc0 := 13) (pc' := 22) rfl (hb hby at_13) rfl (XT.i0_eq_t (by decide)) (by decide) (by decide) ?_
      show Steps p.tables e below (s₁.setTop (mkF m 22 #[.val (.int p1), .val (.int (0 : Int32)), .unset, .unset, .unset] [])) _
      exact kk
    obtain ⟨T4, X4, e4, st4⟩ := getS X0 hx hZ hown (host := "") (hw _ (List.mem_of_getElem? (i := 0) rfl)) Via.refl e0 S_DEBIT (g := (mkF m 22 #[.val (.int p1), .val (.int (0 : Int32)), .unset, .unset, .unset] [])) rfl (hb hby at_22)
    have pre5 : ∀ tgt, Steps p.tables e below (T4.setTop (mkF m 36 #[.val (.int p1), .val (.int (0 : Int32)), .val (.ref aD), .unset, .unset] [])) tgt → Steps p.tables e below (s₁.setTop (entryFrame m #[(.int p1)] maxLocals)) tgt := by
      intro tgt kk
      refine pre3 tgt ?_
      refine st4 _ ?_
      show Steps p.tables e below (T4.setTop (mkF m 25 #[.val (.int p1), .val (.int (0 : Int32)), .unset, .unset, .unset] [(.ref aD)])) _
      refine XS.astoreN X4.here hx rfl (hb hby at_25) rfl rfl (l' := #[.val (.int p1), .val (.int (0 : Int32)), .val (.ref aD), .unset, .unset]) rfl ?_
      show Steps p.tables e below (T4.setTop (mkF m 26 #[.val (.int p1), .val (.int (0 : Int32)), .val (.ref aD), .unset, .unset] [])) _
      refine XS.iloadN X4.here hx rfl (hb hby at_26) rfl ?_
      show Steps p.tables e below (T4.setTop (mkF m 27 #[.val (.int p1), .val (.int (0 : Int32)), .val (.ref aD), .unset, .unset] [(.int (0 : Int32))])) _
      refine XS.ifYes X4.here hx rfl (pc0 := 27) (pc' := 36) rfl (hb hby at_27) rfl (XT.i0_eq_t (by decide)) (by decide) (by decide) ?_
      show Steps p.tables e below (T4.setTop (mkF m 36 #[.val (.int p1), .val (.int (0 : Int32)), .val (.ref aD), .unset, .unset] [])) _
      exact kk
    obtain ⟨T6, X6, e6, st6⟩ := getS X4 hx hZ hown (host := "") (hw _ (List.mem_of_getElem? (i := 3) rfl)) Via.refl e4 S_CREDIT (g := (mkF m 36 #[.val (.int p1), .val (.int (0 : Int32)), .val (.ref aD), .unset, .unset] [])) rfl (hb hby at_36)
    have pre7 : ∀ tgt, Steps p.tables e below (T6.setTop (mkF m 41 #[.val (.int p1), .val (.int (0 : Int32)), .val (.ref aD), .val (.ref aC), .unset] [(.ref aD)])) tgt → Steps p.tables e below (s₁.setTop (entryFrame m #[(.int p1)] maxLocals)) tgt := by
      intro tgt kk
      refine pre5 tgt ?_
      refine st6 _ ?_
      show Steps p.tables e below (T6.setTop (mkF m 39 #[.val (.int p1), .val (.int (0 : Int32)), .val (.ref aD), .unset, .unset] [(.ref aC)])) _
      refine XS.astoreN X6.here hx rfl (hb hby at_39) rfl rfl (l' := #[.val (.int p1), .val (.int (0 : Int32)), .val (.ref aD), .val (.ref aC), .unset]) rfl ?_
      show Steps p.tables e below (T6.setTop (mkF m 40 #[.val (.int p1), .val (.int (0 : Int32)), .val (.ref aD), .val (.ref aC), .unset] [])) _
      refine XS.aloadN X6.here hx rfl (hb hby at_40) rfl rfl ?_
      show Steps p.tables e below (T6.setTop (mkF m 41 #[.val (.int p1), .val (.int (0 : Int32)), .val (.ref aD), .val (.ref aC), .unset] [(.ref aD)])) _
      exact kk
    obtain ⟨cq8, kq8, q8a, q8b, q8c⟩ := isOf hZ e6 E_DEBIT
    obtain ⟨_, _, ⟨T8, L8, k8, n8⟩, -, X8, ⟨Lc8, hQ8, l8, y8, z8⟩, st8⟩ := X6.virtualBack hx (y := (⟨"com/example/keelbook/keelbook/core/Direction", "opposite", "()Lcom/example/keelbook/keelbook/core/Direction;"⟩ : MethodName)) (z := (⟨"com/example/keelbook/keelbook/core/Direction", "opposite", "()Lcom/example/keelbook/keelbook/core/Direction;"⟩ : MethodName)) hown (mvT hZ (hw _ (List.mem_of_getElem? (i := 5) rfl))) (mvT hZ (hw _ (List.mem_of_getElem? (i := 6) rfl))) (notFace_of_selects (args := #[]) (mvT hZ (hw _ (List.mem_of_getElem? (i := 8) rfl)))) (mvT hZ (hw _ (List.mem_of_getElem? (i := 8) rfl))) (mvT hZ (hw _ (List.mem_of_getElem? (i := 7) rfl))) (by decide) (backOf (W := 0) (rm1D l Z a0 hw [] aD aC h0 n0 Z0 S_DEBIT S_CREDIT E_DEBIT E_CREDIT hne) hZ (hw _ (List.mem_of_getElem? (i := 9) rfl)) (hw _ (List.mem_of_getElem? (i := 1) rfl)) (by decide) (by decide)) q8a q8c (g := (mkF m 41 #[.val (.int p1), .val (.int (0 : Int32)), .val (.ref aD), .val (.ref aC), .unset] [(.ref aD)])) rfl (by rw [hml]; rfl) (Steps.refl _) (argsL := []) (rest := []) (lenOf pd___Lcom_example_keelbook_keelbook_core_Direction_ rfl) rfl (by show 2 * 0 + _ ≤ _; exact Nat.le_of_eq rfl) (hb hby at_41) (fun _ _ => ⟨rfl, e6, (by decide : 0 + 0 ≤ _), (by decide : 0 + 0 ≤ _)⟩)
    dsimp only [Pt.U, Pt.locs, Pt.cells, Pt.slots] at X8 l8 y8 z8 st8 hQ8
    subst l8 y8 z8
    obtain ⟨rfl, N8q, hh8⟩ := hQ8
    have N8 := Fr.app N0 N8q
    have hk9 : ¬ (aC = aD) := hne
    have pre10 : ∀ tgt, Steps p.tables e below (T8.setTop (mkF m 67 #[.val (.int p1), .val (.int (0 : Int32)), .val (.ref aD), .val (.ref aC), .val (.ref aC)] [(.ref aC)])) tgt → Steps p.tables e below (s₁.setTop (entryFrame m #[(.int p1)] maxLocals)) tgt := by
      intro tgt kk
      refine pre7 tgt ?_
      refine st8.trans ?_
      show Steps p.tables e below (T8.setTop (mkF m 44 #[.val (.int p1), .val (.int (0 : Int32)), .val (.ref aD), .val (.ref aC), .unset] [(.ref aC)])) _
      refine XS.astore X8.here hx rfl (hb hby at_44) rfl rfl (l' := #[.val (.int p1), .val (.int (0 : Int32)), .val (.ref aD), .val (.ref aC), .val (.ref aC)]) rfl ?_
      show Steps p.tables e below (T8.setTop (mkF m 46 #[.val (.int p1), .val (.int (0 : Int32)), .val (.ref aD), .val (.ref aC), .val (.ref aC)] [])) _
      refine XS.aload X8.here hx rfl (hb hby at_46) rfl rfl ?_
      show Steps p.tables e below (T8.setTop (mkF m 48 #[.val (.int p1), .val (.int (0 : Int32)), .val (.ref aD), .val (.ref aC), .val (.ref aC)] [(.ref aC)])) _
      refine XT.nonnullYes X8.here hx rfl (pc0 := 48) (pc' := 53) rfl (hb hby at_48) rfl rfl (by intro q; cases q) (by decide) (by decide) ?_
      show Steps p.tables e below (T8.setTop (mkF m 53 #[.val (.int p1), .val (.int (0 : Int32)), .val (.ref aD), .val (.ref aC), .val (.ref aC)] [])) _
      refine XS.aload X8.here hx rfl (hb hby at_53) rfl rfl ?_
      show Steps p.tables e below (T8.setTop (mkF m 55 #[.val (.int p1), .val (.int (0 : Int32)), .val (.ref aD), .val (.ref aC), .val (.ref aC)] [(.ref aC)])) _
      refine XS.aloadN X8.here hx rfl (hb hby at_55) rfl rfl ?_
      show Steps p.tables e below (T8.setTop (mkF m 56 #[.val (.int p1), .val (.int (0 : Int32)), .val (.ref aD), .val (.ref aC), .val (.ref aC)] [(.ref aC), (.ref aC)])) _
      refine XT.acmpNo X8.here hx rfl (hb hby at_56) rfl rfl rfl (XT.aa_ne_f rfl) ?_
      show Steps p.tables e below (T8.setTop (mkF m 59 #[.val (.int p1), .val (.int (0 : Int32)), .val (.ref aD), .val (.ref aC), .val (.ref aC)] [])) _
      refine XS.aload X8.here hx rfl (hb hby at_59) rfl rfl ?_
      show Steps p.tables e below (T8.setTop (mkF m 61 #[.val (.int p1), .val (.int (0 : Int32)), .val (.ref aD), .val (.ref aC), .val (.ref aC)] [(.ref aC)])) _
      refine XS.aloadN X8.here hx rfl (hb hby at_61) rfl rfl ?_
      show Steps p.tables e below (T8.setTop (mkF m 62 #[.val (.int p1), .val (.int (0 : Int32)), .val (.ref aD), .val (.ref aC), .val (.ref aC)] [(.ref aD), (.ref aC)])) _
      refine XT.acmpNo X8.here hx rfl (hb hby at_62) rfl rfl rfl (XT.aa_eq_f (fun q => hk9 (Value.ref.inj q))) ?_
      show Steps p.tables e below (T8.setTop (mkF m 65 #[.val (.int p1), .val (.int (0 : Int32)), .val (.ref aD), .val (.ref aC), .val (.ref aC)] [])) _
      refine XS.aload X8.here hx rfl (hb hby at_65) rfl rfl ?_
      show Steps p.tables e below (T8.setTop (mkF m 67 #[.val (.int p1), .val (.int (0 : Int32)), .val (.ref aD), .val (.ref aC), .val (.ref aC)] [(.ref aC)])) _
      exact kk
    obtain ⟨cq11, kq11, q11a, q11b, q11c⟩ := isOf hZ hh8 E_CREDIT
    obtain ⟨_, _, ⟨T11, L11, k11, n11⟩, -, X11, ⟨Lc11, hQ11, l11, y11, z11⟩, st11⟩ := X8.virtualBack hx (y := (⟨"com/example/keelbook/keelbook/core/Direction", "opposite", "()Lcom/example/keelbook/keelbook/core/Direction;"⟩ : MethodName)) (z := (⟨"com/example/keelbook/keelbook/core/Direction", "opposite", "()Lcom/example/keelbook/keelbook/core/Direction;"⟩ : MethodName)) hown (mvT hZ (hw _ (List.mem_of_getElem? (i := 5) rfl))) (mvT hZ (hw _ (List.mem_of_getElem? (i := 6) rfl))) (notFace_of_selects (args := #[]) (mvT hZ (hw _ (List.mem_of_getElem? (i := 8) rfl)))) (mvT hZ (hw _ (List.mem_of_getElem? (i := 8) rfl))) (mvT hZ (hw _ (List.mem_of_getElem? (i := 7) rfl))) (by decide) (backOf (W := 0) (rm1C l Z a0 hw [] aD aC h0 n0 Z0 S_DEBIT S_CREDIT E_DEBIT E_CREDIT hne) hZ (hw _ (List.mem_of_getElem? (i := 9) rfl)) (hw _ (List.mem_of_getElem? (i := 1) rfl)) (by decide) (by decide)) q11a q11c (g := (mkF m 67 #[.val (.int p1), .val (.int (0 : Int32)), .val (.ref aD), .val (.ref aC), .val (.ref aC)] [(.ref aC)])) rfl (by rw [hml]; rfl) (Steps.refl _) (argsL := []) (rest := []) (lenOf pd___Lcom_example_keelbook_keelbook_core_Direction_ rfl) rfl (by show 2 * 0 + _ ≤ _; exact Nat.le_of_eq rfl) (hb hby at_67) (fun _ _ => ⟨rfl, hh8, (by decide : 0 + 0 ≤ _), (by decide : 0 + 0 ≤ _)⟩)
    dsimp only [Pt.U, Pt.locs, Pt.cells, Pt.slots] at X11 l11 y11 z11 st11 hQ11
    subst l11 y11 z11
    obtain ⟨rfl, N11q, hh11⟩ := hQ11
    have N11 := Fr.app N8 N11q
    obtain ⟨fs, hr, hrun, hended, hW, hsame⟩ := X11.leave (v := some (.int (1 : Int32))) (fun h => by rw [Bd.returns] at h; cases h)
    refine ⟨_, _, pre10 _ ?_, hrun, hended, _, _, rfl, ?_, ⟨_, rfl⟩, hW, hsame.mono (by decide) (by decide)⟩
    · skip
      refine st11.trans ?_
      show Steps p.tables e below (T11.setTop (mkF m 70 #[.val (.int p1), .val (.int (0 : Int32)), .val (.ref aD), .val (.ref aC), .val (.ref aC)] [(.ref aD)])) _
      refine XS.aloadN X11.here hx rfl (hb hby at_70) rfl rfl ?_
      show Steps p.tables e below (T11.setTop (mkF m 71 #[.val (.int p1), .val (.int (0 : Int32)), .val (.ref aD), .val (.ref aC), .val (.ref aC)] [(.ref aD), (.ref aD)])) _
      refine XT.acmpNo X11.here hx rfl (hb hby at_71) rfl rfl rfl (XT.aa_ne_f rfl) ?_
      show Steps p.tables e below (T11.setTop (mkF m 74 #[.val (.int p1), .val (.int (0 : Int32)), .val (.ref aD), .val (.ref aC), .val (.ref aC)] [])) _
      refine XS.iconst X11.here hx rfl (hb hby at_74) ?_
      show Steps p.tables e below (T11.setTop (mkF m 75 #[.val (.int p1), .val (.int (0 : Int32)), .val (.ref aD), .val (.ref aC), .val (.ref aC)] [(.int (1 : Int32))])) _
      refine XS.goto X11.here hx rfl (pc0 := 75) (pc' := 79) rfl (hb hby at_75) (by decide) (by decide) ?_
      show Steps p.tables e below (T11.setTop (mkF m 79 #[.val (.int p1), .val (.int (0 : Int32)), .val (.ref aD), .val (.ref aC), .val (.ref aC)] [(.int (1 : Int32))])) _
      exact retN X11 hx (t := .boolean) Bd.returns (by simp) (hb hby at_79) hr
    · show Q0 Z p1 aD aC h0 n0 _ T11.heap _
      rw [hh11]
      exact ⟨rfl, N11⟩
  · skip
    have pre12 : ∀ tgt, Steps p.tables e below (s₁.setTop (mkF m 16 #[.val (.int p1), .val (.int (1 : Int32)), .unset, .unset, .unset] [])) tgt → Steps p.tables e below (s₁.setTop (entryFrame m #[(.int p1)] maxLocals)) tgt := by
      intro tgt kk
      refine pre1 tgt ?_
      refine XS.ifNo X0.here hx rfl (hb hby at_3) rfl (XT.i0_eq_f hc3_2) ?_
      show Steps p.tables e below (s₁.setTop (mkF m 6 #[.val (.int p1), .unset, .unset, .unset, .unset] [])) _
      refine XS.iconst X0.here hx rfl (hb hby at_6) ?_
      show Steps p.tables e below (s₁.setTop (mkF m 7 #[.val (.int p1), .unset, .unset, .unset, .unset] [(.int (1 : Int32))])) _
      refine XS.goto X0.here hx rfl (pc0 := 7) (pc' := 11) rfl (hb hby at_7) (by decide) (by decide) ?_
      show Steps p.tables e below (s₁.setTop (mkF m 11 #[.val (.int p1), .unset, .unset, .unset, .unset] [(.int (1 : Int32))])) _
      refine XS.istoreN X0.here hx rfl (hb hby at_11) rfl (l' := #[.val (.int p1), .val (.int (1 : Int32)), .unset, .unset, .unset]) rfl ?_
      show Steps p.tables e below (s₁.setTop (mkF m 12 #[.val (.int p1), .val (.int (1 : Int32)), .unset, .unset, .unset] [])) _
      refine XS.iloadN X0.here hx rfl (hb hby at_12) rfl ?_
      show Steps p.tables e below (s₁.setTop (mkF m 13 #[.val (.int p1), .val (.int (1 : Int32)), .unset, .unset, .unset] [(.int (1 : Int32))])) _
      refine XS.ifNo X0.here hx rfl (hb hby at_13) rfl (XT.i0_eq_f (by decide)) ?_
      show Steps p.tables e below (s₁.setTop (mkF m 16 #[.val (.int p1), .val (.int (1 : Int32)), .unset, .unset, .unset] [])) _
      exact kk
    obtain ⟨T13, X13, e13, st13⟩ := getS X0 hx hZ hown (host := "") (hw _ (List.mem_of_getElem? (i := 3) rfl)) Via.refl e0 S_CREDIT (g := (mkF m 16 #[.val (.int p1), .val (.int (1 : Int32)), .unset, .unset, .unset] [])) rfl (hb hby at_16)
    have pre14 : ∀ tgt, Steps p.tables e below (T13.setTop (mkF m 30 #[.val (.int p1), .val (.int (1 : Int32)), .val (.ref aC), .unset, .unset] [])) tgt → Steps p.tables e below (s₁.setTop (entryFrame m #[(.int p1)] maxLocals)) tgt := by
      intro tgt kk
      refine pre12 tgt ?_
      refine st13 _ ?_
      show Steps p.tables e below (T13.setTop (mkF m 19 #[.val (.int p1), .val (.int (1 : Int32)), .unset, .unset, .unset] [(.ref aC)])) _
      refine XS.goto X13.here hx rfl (pc0 := 19) (pc' := 25) rfl (hb hby at_19) (by decide) (by decide) ?_
      show Steps p.tables e below (T13.setTop (mkF m 25 #[.val (.int p1), .val (.int (1 : Int32)), .unset, .unset, .unset] [(.ref aC)])) _
      refine XS.astoreN X13.here hx rfl (hb hby at_25) rfl rfl (l' := #[.val (.int p1), .val (.int (1 : Int32)), .val (.ref aC), .unset, .unset]) rfl ?_
      show Steps p.tables e below (T13.setTop (mkF m 26 #[.val (.int p1), .val (.int (1 : Int32)), .val (.ref aC), .unset, .unset] [])) _
      refine XS.iloadN X13.here hx rfl (hb hby at_26) rfl ?_
      show Steps p.tables e below (T13.setTop (mkF m 27 #[.val (.int p1), .val (.int (1 : Int32)), .val (.ref aC), .unset, .unset] [(.int (1 : Int32))])) _
      refine XS.ifNo X13.here hx rfl (hb hby at_27) rfl (XT.i0_eq_f (by decide)) ?_
      show Steps p.tables e below (T13.setTop (mkF m 30 #[.val (.int p1), .val (.int (1 : Int32)), .val (.ref aC), .unset, .unset] [])) _
      exact kk
    obtain ⟨T15, X15, e15, st15⟩ := getS X13 hx hZ hown (host := "") (hw _ (List.mem_of_getElem? (i := 0) rfl)) Via.refl e13 S_DEBIT (g := (mkF m 30 #[.val (.int p1), .val (.int (1 : Int32)), .val (.ref aC), .unset, .unset] [])) rfl (hb hby at_30)
    have pre16 : ∀ tgt, Steps p.tables e below (T15.setTop (mkF m 41 #[.val (.int p1), .val (.int (1 : Int32)), .val (.ref aC), .val (.ref aD), .unset] [(.ref aC)])) tgt → Steps p.tables e below (s₁.setTop (entryFrame m #[(.int p1)] maxLocals)) tgt := by
      intro tgt kk
      refine pre14 tgt ?_
      refine st15 _ ?_
      show Steps p.tables e below (T15.setTop (mkF m 33 #[.val (.int p1), .val (.int (1 : Int32)), .val (.ref aC), .unset, .unset] [(.ref aD)])) _
      refine XS.goto X15.here hx rfl (pc0 := 33) (pc' := 39) rfl (hb hby at_33) (by decide) (by decide) ?_
      show Steps p.tables e below (T15.setTop (mkF m 39 #[.val (.int p1), .val (.int (1 : Int32)), .val (.ref aC), .unset, .unset] [(.ref aD)])) _
      refine XS.astoreN X15.here hx rfl (hb hby at_39) rfl rfl (l' := #[.val (.int p1), .val (.int (1 : Int32)), .val (.ref aC), .val (.ref aD), .unset]) rfl ?_
      show Steps p.tables e below (T15.setTop (mkF m 40 #[.val (.int p1), .val (.int (1 : Int32)), .val (.ref aC), .val (.ref aD), .unset] [])) _
      refine XS.aloadN X15.here hx rfl (hb hby at_40) rfl rfl ?_
      show Steps p.tables e below (T15.setTop (mkF m 41 #[.val (.int p1), .val (.int (1 : Int32)), .val (.ref aC), .val (.ref aD), .unset] [(.ref aC)])) _
      exact kk
    obtain ⟨cq17, kq17, q17a, q17b, q17c⟩ := isOf hZ e15 E_CREDIT
    obtain ⟨_, _, ⟨T17, L17, k17, n17⟩, -, X17, ⟨Lc17, hQ17, l17, y17, z17⟩, st17⟩ := X15.virtualBack hx (y := (⟨"com/example/keelbook/keelbook/core/Direction", "opposite", "()Lcom/example/keelbook/keelbook/core/Direction;"⟩ : MethodName)) (z := (⟨"com/example/keelbook/keelbook/core/Direction", "opposite", "()Lcom/example/keelbook/keelbook/core/Direction;"⟩ : MethodName)) hown (mvT hZ (hw _ (List.mem_of_getElem? (i := 5) rfl))) (mvT hZ (hw _ (List.mem_of_getElem? (i := 6) rfl))) (notFace_of_selects (args := #[]) (mvT hZ (hw _ (List.mem_of_getElem? (i := 8) rfl)))) (mvT hZ (hw _ (List.mem_of_getElem? (i := 8) rfl))) (mvT hZ (hw _ (List.mem_of_getElem? (i := 7) rfl))) (by decide) (backOf (W := 0) (rm1C l Z a0 hw [] aD aC h0 n0 Z0 S_DEBIT S_CREDIT E_DEBIT E_CREDIT hne) hZ (hw _ (List.mem_of_getElem? (i := 9) rfl)) (hw _ (List.mem_of_getElem? (i := 1) rfl)) (by decide) (by decide)) q17a q17c (g := (mkF m 41 #[.val (.int p1), .val (.int (1 : Int32)), .val (.ref aC), .val (.ref aD), .unset] [(.ref aC)])) rfl (by rw [hml]; rfl) (Steps.refl _) (argsL := []) (rest := []) (lenOf pd___Lcom_example_keelbook_keelbook_core_Direction_ rfl) rfl (by show 2 * 0 + _ ≤ _; exact Nat.le_of_eq rfl) (hb hby at_41) (fun _ _ => ⟨rfl, e15, (by decide : 0 + 0 ≤ _), (by decide : 0 + 0 ≤ _)⟩)
    dsimp only [Pt.U, Pt.locs, Pt.cells, Pt.slots] at X17 l17 y17 z17 st17 hQ17
    subst l17 y17 z17
    obtain ⟨rfl, N17q, hh17⟩ := hQ17
    have N17 := Fr.app N0 N17q
    have hk18 : ¬ (aD = aC) := (fun q => hne q.symm)
    have pre19 : ∀ tgt, Steps p.tables e below (T17.setTop (mkF m 67 #[.val (.int p1), .val (.int (1 : Int32)), .val (.ref aC), .val (.ref aD), .val (.ref aD)] [(.ref aD)])) tgt → Steps p.tables e below (s₁.setTop (entryFrame m #[(.int p1)] maxLocals)) tgt := by
      intro tgt kk
      refine pre16 tgt ?_
      refine st17.trans ?_
      show Steps p.tables e below (T17.setTop (mkF m 44 #[.val (.int p1), .val (.int (1 : Int32)), .val (.ref aC), .val (.ref aD), .unset] [(.ref aD)])) _
      refine XS.astore X17.here hx rfl (hb hby at_44) rfl rfl (l' := #[.val (.int p1), .val (.int (1 : Int32)), .val (.ref aC), .val (.ref aD), .val (.ref aD)]) rfl ?_
      show Steps p.tables e below (T17.setTop (mkF m 46 #[.val (.int p1), .val (.int (1 : Int32)), .val (.ref aC), .val (.ref aD), .val (.ref aD)] [])) _
      refine XS.aload X17.here hx rfl (hb hby at_46) rfl rfl ?_
      show Steps p.tables e below (T17.setTop (mkF m 48 #[.val (.int p1), .val (.int (1 : Int32)), .val (.ref aC), .val (.ref aD), .val (.ref aD)] [(.ref aD)])) _
      refine XT.nonnullYes X17.here hx rfl (pc0 := 48) (pc' := 53) rfl (hb hby at_48) rfl rfl (by intro q; cases q) (by decide) (by decide) ?_
      show Steps p.tables e below (T17.setTop (mkF m 53 #[.val (.int p1), .val (.int (1 : Int32)), .val (.ref aC), .val (.ref aD), .val (.ref aD)] [])) _
      refine XS.aload X17.here hx rfl (hb hby at_53) rfl rfl ?_
      show Steps p.tables e below (T17.setTop (mkF m 55 #[.val (.int p1), .val (.int (1 : Int32)), .val (.ref aC), .val (.ref aD), .val (.ref aD)] [(.ref aD)])) _
      refine XS.aloadN X17.here hx rfl (hb hby at_55) rfl rfl ?_
      show Steps p.tables e below (T17.setTop (mkF m 56 #[.val (.int p1), .val (.int (1 : Int32)), .val (.ref aC), .val (.ref aD), .val (.ref aD)] [(.ref aD), (.ref aD)])) _
      refine XT.acmpNo X17.here hx rfl (hb hby at_56) rfl rfl rfl (XT.aa_ne_f rfl) ?_
      show Steps p.tables e below (T17.setTop (mkF m 59 #[.val (.int p1), .val (.int (1 : Int32)), .val (.ref aC), .val (.ref aD), .val (.ref aD)] [])) _
      refine XS.aload X17.here hx rfl (hb hby at_59) rfl rfl ?_
      show Steps p.tables e below (T17.setTop (mkF m 61 #[.val (.int p1), .val (.int (1 : Int32)), .val (.ref aC), .val (.ref aD), .val (.ref aD)] [(.ref aD)])) _
      refine XS.aloadN X17.here hx rfl (hb hby at_61) rfl rfl ?_
      show Steps p.tables e below (T17.setTop (mkF m 62 #[.val (.int p1), .val (.int (1 : Int32)), .val (.ref aC), .val (.ref aD), .val (.ref aD)] [(.ref aC), (.ref aD)])) _
      refine XT.acmpNo X17.here hx rfl (hb hby at_62) rfl rfl rfl (XT.aa_eq_f (fun q => hk18 (Value.ref.inj q))) ?_
      show Steps p.tables e below (T17.setTop (mkF m 65 #[.val (.int p1), .val (.int (1 : Int32)), .val (.ref aC), .val (.ref aD), .val (.ref aD)] [])) _
      refine XS.aload X17.here hx rfl (hb hby at_65) rfl rfl ?_
      show Steps p.tables e below (T17.setTop (mkF m 67 #[.val (.int p1), .val (.int (1 : Int32)), .val (.ref aC), .val (.ref aD), .val (.ref aD)] [(.ref aD)])) _
      exact kk
    obtain ⟨cq20, kq20, q20a, q20b, q20c⟩ := isOf hZ hh17 E_DEBIT
    obtain ⟨_, _, ⟨T20, L20, k20, n20⟩, -, X20, ⟨Lc20, hQ20, l20, y20, z20⟩, st20⟩ := X17.virtualBack hx (y := (⟨"com/example/keelbook/keelbook/core/Direction", "opposite", "()Lcom/example/keelbook/keelbook/core/Direction;"⟩ : MethodName)) (z := (⟨"com/example/keelbook/keelbook/core/Direction", "opposite", "()Lcom/example/keelbook/keelbook/core/Direction;"⟩ : MethodName)) hown (mvT hZ (hw _ (List.mem_of_getElem? (i := 5) rfl))) (mvT hZ (hw _ (List.mem_of_getElem? (i := 6) rfl))) (notFace_of_selects (args := #[]) (mvT hZ (hw _ (List.mem_of_getElem? (i := 8) rfl)))) (mvT hZ (hw _ (List.mem_of_getElem? (i := 8) rfl))) (mvT hZ (hw _ (List.mem_of_getElem? (i := 7) rfl))) (by decide) (backOf (W := 0) (rm1D l Z a0 hw [] aD aC h0 n0 Z0 S_DEBIT S_CREDIT E_DEBIT E_CREDIT hne) hZ (hw _ (List.mem_of_getElem? (i := 9) rfl)) (hw _ (List.mem_of_getElem? (i := 1) rfl)) (by decide) (by decide)) q20a q20c (g := (mkF m 67 #[.val (.int p1), .val (.int (1 : Int32)), .val (.ref aC), .val (.ref aD), .val (.ref aD)] [(.ref aD)])) rfl (by rw [hml]; rfl) (Steps.refl _) (argsL := []) (rest := []) (lenOf pd___Lcom_example_keelbook_keelbook_core_Direction_ rfl) rfl (by show 2 * 0 + _ ≤ _; exact Nat.le_of_eq rfl) (hb hby at_67) (fun _ _ => ⟨rfl, hh17, (by decide : 0 + 0 ≤ _), (by decide : 0 + 0 ≤ _)⟩)
    dsimp only [Pt.U, Pt.locs, Pt.cells, Pt.slots] at X20 l20 y20 z20 st20 hQ20
    subst l20 y20 z20
    obtain ⟨rfl, N20q, hh20⟩ := hQ20
    have N20 := Fr.app N17 N20q
    obtain ⟨fs, hr, hrun, hended, hW, hsame⟩ := X20.leave (v := some (.int (1 : Int32))) (fun h => by rw [Bd.returns] at h; cases h)
    refine ⟨_, _, pre19 _ ?_, hrun, hended, _, _, rfl, ?_, ⟨_, rfl⟩, hW, hsame.mono (by decide) (by decide)⟩
    · skip
      refine st20.trans ?_
      show Steps p.tables e below (T20.setTop (mkF m 70 #[.val (.int p1), .val (.int (1 : Int32)), .val (.ref aC), .val (.ref aD), .val (.ref aD)] [(.ref aC)])) _
      refine XS.aloadN X20.here hx rfl (hb hby at_70) rfl rfl ?_
      show Steps p.tables e below (T20.setTop (mkF m 71 #[.val (.int p1), .val (.int (1 : Int32)), .val (.ref aC), .val (.ref aD), .val (.ref aD)] [(.ref aC), (.ref aC)])) _
      refine XT.acmpNo X20.here hx rfl (hb hby at_71) rfl rfl rfl (XT.aa_ne_f rfl) ?_
      show Steps p.tables e below (T20.setTop (mkF m 74 #[.val (.int p1), .val (.int (1 : Int32)), .val (.ref aC), .val (.ref aD), .val (.ref aD)] [])) _
      refine XS.iconst X20.here hx rfl (hb hby at_74) ?_
      show Steps p.tables e below (T20.setTop (mkF m 75 #[.val (.int p1), .val (.int (1 : Int32)), .val (.ref aC), .val (.ref aD), .val (.ref aD)] [(.int (1 : Int32))])) _
      refine XS.goto X20.here hx rfl (pc0 := 75) (pc' := 79) rfl (hb hby at_75) (by decide) (by decide) ?_
      show Steps p.tables e below (T20.setTop (mkF m 79 #[.val (.int p1), .val (.int (1 : Int32)), .val (.ref aC), .val (.ref aD), .val (.ref aD)] [(.int (1 : Int32))])) _
      exact retN X20 hx (t := .boolean) Bd.returns (by simp) (hb hby at_79) hr
    · show Q0 Z p1 aD aC h0 n0 _ T20.heap _
      rw [hh20]
      exact ⟨rfl, N20⟩
set_option maxRecDepth 65536 in
set_option maxHeartbeats 40000000 in
theorem comes_1 {Post : Tables → Env → Array Value → State → Outcome → State → Prop} (hpost : ∀ tb e args s v u, (limb_1_1.after args s (.returned v) u = true ∧ limb_1_2.after args s (.returned v) u = true ∧ True) → FrameEnd s (.returned v) u (Jvm.fieldLocs frame_1_writes args s ++ Jvm.arrayLocs frame_1_arrays args s ++ Jvm.staticLocs frame_1_statics s) 0 0 → Post tb e args s (.returned v) u) :
    ArmFor flags0 classFile x code maxLocals ret World_1 tables_1 room_1 Calls_1 rest_1 Pre_1 Post := by
  intro l hfl _ _ p e ha hc hk s m args below hf hA hF happ hP
  obtain ⟨hcalls, hrest, hpre⟩ := hP
  obtain ⟨-, -, -, hnamed, -, -, -, hat⟩ := (Spec.applies_iff hf).mp happ
  obtain ⟨hg, hn⟩ := and_e (Cond.before_iff.mp (show (Jvm.Cond.and given_1 narrow_1).before args s = true from hpre))
  obtain ⟨hcount, g0⟩ := and_e hg
  have ga0 := g0
  obtain ⟨w0, rfl⟩ : ∃ w0 : Value, args = #[w0] := by
    have hs : args.size = 1 := by simpa [Cond.value, given_1] using hcount
    obtain ⟨L⟩ := args
    match L, hs with
    | [w0], _ => exact ⟨w0, rfl⟩
  have hw := fun d (hd : d ∈ tables_1) => atoms_spec (ws := Jvm.Cond.code x code maxLocals ret :: tables_1) hat d (List.mem_cons_of_mem _ hd)
  have hfit : Fit s := fun {y c} hc i hi => by
    obtain ⟨ha, rfl⟩ := Array.getElem?_eq_some_iff.mp hc
    have q := List.all_eq_true.mp ((Array.all_eq_true_iff_forall_mem.mp hF) _ (Array.getElem_mem ha)) i (List.mem_range.mpr hi)
    simpa [Array.getElem?_eq_getElem hi] using q
  obtain ⟨i0, ei0⟩ := is_v ga0
  obtain rfl : w0 = (.int i0) := Option.some.inj ei0
  obtain ⟨hn_0, hr_0⟩ := and_e hn
  obtain ⟨hn_1, hr_1⟩ := and_e hr_0
  obtain ⟨hn_2, hr_2⟩ := and_e hr_1
  obtain ⟨a_DEBIT, ev_DEBIT⟩ := exa_v hn_0
  have E_DEBIT : Exa s s.heap a_DEBIT "com/example/keelbook/keelbook/core/Direction" := Exa.start ev_DEBIT hn_0
  have S_DEBIT : Sta s s.heap "com/example/keelbook/keelbook/core/Direction" "DEBIT" "Lcom/example/keelbook/keelbook/core/Direction;" (.ref a_DEBIT) := Sta.start ev_DEBIT (Or.inr ⟨(hw _ (List.mem_of_getElem? (i := 1) rfl)), (hw _ (List.mem_of_getElem? (i := 2) rfl))⟩)
  obtain ⟨a_CREDIT, ev_CREDIT⟩ := exa_v hn_1
  have E_CREDIT : Exa s s.heap a_CREDIT "com/example/keelbook/keelbook/core/Direction" := Exa.start ev_CREDIT hn_1
  have S_CREDIT : Sta s s.heap "com/example/keelbook/keelbook/core/Direction" "CREDIT" "Lcom/example/keelbook/keelbook/core/Direction;" (.ref a_CREDIT) := Sta.start ev_CREDIT (Or.inr ⟨(hw _ (List.mem_of_getElem? (i := 1) rfl)), (hw _ (List.mem_of_getElem? (i := 4) rfl))⟩)
  have F_CREDIT_ordinal : Fld s s.heap a_CREDIT "java/lang/Enum" "ordinal" "I" (.int (1 : Int32)) := Fld.start ((fld_at ev_CREDIT).symm.trans (own_eqI hn_2))
  have F_DEBIT_ordinal : Fld s s.heap a_DEBIT "java/lang/Enum" "ordinal" "I" (.int (0 : Int32)) := Fld.start ((fld_at ev_DEBIT).symm.trans (own_eqI hr_2))
  have hne : a_CREDIT ≠ a_DEBIT := Fld.ne F_CREDIT_ordinal F_DEBIT_ordinal (by decide)
  obtain ⟨n, o, h1, h2, h3, _, L, rfl, ⟨rfl, N⟩, hq⟩ := rm0 l s _ hw tables_1 i0 a_DEBIT a_CREDIT s.heap s.heap.size (Nat.le_refl _) S_DEBIT S_CREDIT E_DEBIT E_CREDIT hne p e ha hc hk s m _ below hf ((Spec.applies_iff_loose hf).mp happ).1 ⟨rfl, State.Warmed39.refl s, rfl⟩ trivial
  refine ⟨n, _, h1, h2, h3, hpost _ _ _ _ _ _ ⟨Cond.after_iff.mpr rfl, Cond.after_iff.mpr (eq_i res_at (Term.int_eval (1)) rfl), trivial⟩ ⟨hq.1, hq.2.1, (hq.2.2.sift fun y hy => Or.inr (N y hy)).mono (by decide) (by decide)⟩⟩
theorem main_1_1 : Claimed_1_1 := comes_1 fun _ _ _ _ _ _ h hF => ⟨h.1, hF⟩
theorem main_1_2 : Claimed_1_2 := comes_1 fun _ _ _ _ _ _ h hF => ⟨h.2.1, hF⟩
end Jvm.Pilot.@@N@@
namespace Jvm.Pilot.@@N@@
open Jvm Jvm.ClassFile Sem Op Lib Jvm.Free Jvm.Stand Jvm.Pilot.@@N@@.Jvm.D
/-! MADE BY PROGRAM (witnessworld.py) out of the Statement's table words and the real class files: 12 classes; the members and pool entries that the words name. The judged class is class 1, her method 1. -/
namespace start1
open Jvm.ClassFile
def u (s : String) : CpInfo := .utf8 (stringToUtf16 s)
/-- a pool by its gaps: so many unusable entries, then the entry; so many at the end -/
def gap : Nat → List CpInfo → List CpInfo
  | 0, r => r
  | n + 1, r => .unusable :: gap n r
def poolList (es : List (Nat × CpInfo)) (last : Nat) : List CpInfo := es.foldr (fun e r => gap e.1 (e.2 :: r)) (gap last [])
def pool (es : List (Nat × CpInfo)) (last : Nat) : Array CpInfo := ⟨poolList es last⟩
def fileOf (pool : Array CpInfo) (this : Nat) (attrs : Array Attribute := #[]) (ms : Array MethodInfo := #[]) (fl : Nat := 33) (sup : Nat := 0) (ifs : Array Nat := #[]) (fds : Array FieldInfo := #[]) : ClassFile where
  minorVersion := 0
  majorVersion := 65
  constantPool := pool
  accessFlags := fl
  thisClass := this
  superClass := sup
  interfaces := ifs
  fields := fds
  methods := ms
  attributes := attrs
def plain (name : String) (sup : Option ClassId) : Class where
  name := name
  kind := .ordinary
  loader := none
  accessFlags := 33
  super := sup
  interfaces := #[]
  cf := none
  fields := #[]
  methods := #[]
  instanceTypes := #[]
  staticTypes := #[]
  resolved := #[]
  callSites := []
  init := .initialized
  statics := none
  mirror := none

def pool0 : Array CpInfo := pool [(5, u "<init>"), (0, u "()V"), (1, .class_ 10), (1, u "java/lang/Object")] 113

def k0m0 : Method := { name := "<init>", desc := "()V", sig := { parameters := [], returnType := none }, accessFlags := 1, code := none }
/-- java/lang/Object -/
def k0 : Class := { plain "java/lang/Object" none with
  accessFlags := 33
  interfaces := #[]
  cf := some (fileOf pool0 8 #[] #[{ accessFlags := 1, nameIndex := 5, descriptorIndex := 6, attributes := #[] }] 33 0 #[] #[])
  fields := #[]
  methods := #[k0m0]
  instanceTypes := #[]
  staticTypes := #[]
  resolved := Array.replicate 124 none
  statics := none }

def pool1 : Array CpInfo := pool [(2, .class_ 4), (1, u "java/lang/Object"), (0, u "<init>"), (0, u "()V"), (0, .fieldref 8 9), (0, .class_ 10), (0, .nameAndType 11 12), (0, u "com/example/keelbook/keelbook/core/Direction"), (0, u "CREDIT"), (0, u "Lcom/example/keelbook/keelbook/core/Direction;"), (0, .fieldref 8 14), (0, .nameAndType 15 12), (0, u "DEBIT"), (0, .methodref 8 17), (0, .nameAndType 18 19), (0, u "opposite"), (0, u "()Lcom/example/keelbook/keelbook/core/Direction;"), (0, .class_ 21), (0, u "com/example/keelbook/keelbook/core/DirectionOppositePinLaw"), (2, u "law"), (0, u "(I)Z")] 3

def k1m0 : Method := { name := "<init>", desc := "()V", sig := { parameters := [], returnType := none }, accessFlags := 1, code := none }
def k1c1 : Code := { maxStack := 2, maxLocals := 5, code := code, exceptionTable := #[], attributes := #[] }
def k1m1 : Method := { name := "law", desc := "(I)Z", sig := { parameters := [.int], returnType := some .boolean }, accessFlags := 9, code := some k1c1 }
/-- com/example/keelbook/keelbook/core/DirectionOppositePinLaw -/
def k1 : Class := { plain "com/example/keelbook/keelbook/core/DirectionOppositePinLaw" (some 0) with
  accessFlags := 49
  interfaces := #[]
  cf := some (fileOf pool1 20 #[] #[{ accessFlags := 1, nameIndex := 5, descriptorIndex := 6, attributes := #[] }, { accessFlags := 9, nameIndex := 24, descriptorIndex := 25, attributes := #[] }] 49 2 #[] #[])
  fields := #[]
  methods := #[k1m0, k1m1]
  instanceTypes := #[]
  staticTypes := #[]
  resolved := Array.replicate 29 none
  statics := none }

def pool2 : Array CpInfo := pool [(1, .class_ 2), (0, u "java/lang/constant/Constable"), (0, .class_ 4), (0, u "java/lang/Object")] 6

/-- java/lang/constant/Constable -/
def k2 : Class := { plain "java/lang/constant/Constable" (some 0) with
  accessFlags := 1537
  interfaces := #[]
  cf := some (fileOf pool2 1 #[] #[] 1537 3 #[] #[])
  fields := #[]
  methods := #[]
  instanceTypes := #[]
  staticTypes := #[]
  resolved := Array.replicate 11 none
  statics := none }

def pool3 : Array CpInfo := pool [(1, .class_ 2), (0, u "java/lang/Comparable"), (0, .class_ 4), (0, u "java/lang/Object")] 7

/-- java/lang/Comparable -/
def k3 : Class := { plain "java/lang/Comparable" (some 0) with
  accessFlags := 1537
  interfaces := #[]
  cf := some (fileOf pool3 1 #[] #[] 1537 3 #[] #[])
  fields := #[]
  methods := #[]
  instanceTypes := #[]
  staticTypes := #[]
  resolved := Array.replicate 12 none
  statics := none }

def pool4 : Array CpInfo := pool [(1, .class_ 2), (0, u "java/io/Serializable"), (0, .class_ 4), (0, u "java/lang/Object")] 2

/-- java/io/Serializable -/
def k4 : Class := { plain "java/io/Serializable" (some 0) with
  accessFlags := 1537
  interfaces := #[]
  cf := some (fileOf pool4 1 #[] #[] 1537 3 #[] #[])
  fields := #[]
  methods := #[]
  instanceTypes := #[]
  staticTypes := #[]
  resolved := Array.replicate 7 none
  statics := none }

def pool5 : Array CpInfo := pool [(2, .class_ 4), (1, u "java/lang/Enum"), (0, u "name"), (0, u "Ljava/lang/String;"), (2, u "ordinal"), (0, u "I"), (1, .class_ 14), (1, u "java/lang/Object"), (4, u "hash"), (86, .class_ 108), (1, u "java/lang/Enum$EnumDesc"), (2, .class_ 112), (0, u "java/lang/constant/Constable"), (0, .class_ 114), (0, u "java/lang/Comparable"), (0, .class_ 116), (0, u "java/io/Serializable")] 87

/-- java/lang/Enum -/
def k5 : Class := { plain "java/lang/Enum" (some 0) with
  accessFlags := 1057
  interfaces := #[2, 3, 4]
  cf := some (fileOf pool5 2 #[.nestMembers #[106]] #[] 1057 12 #[111, 113, 115] #[{ accessFlags := 18, nameIndex := 5, descriptorIndex := 6, attributes := #[] }, { accessFlags := 18, nameIndex := 9, descriptorIndex := 10, attributes := #[] }, { accessFlags := 2, nameIndex := 19, descriptorIndex := 10, attributes := #[] }])
  fields := #[{ name := "name", type := (.object "java/lang/String"), accessFlags := 18, slot := 0, constantValue := 0 }, { name := "ordinal", type := .int, accessFlags := 18, slot := 1, constantValue := 0 }, { name := "hash", type := .int, accessFlags := 2, slot := 2, constantValue := 0 }]
  methods := #[]
  instanceTypes := #[(.object "java/lang/String"), .int, .int]
  staticTypes := #[]
  resolved := Array.replicate 204 none
  statics := none }

def pool6 : Array CpInfo := pool [(1, .class_ 2), (0, u "com/example/keelbook/keelbook/core/Direction"), (0, .fieldref 1 4), (0, .nameAndType 5 6), (0, u "DEBIT"), (0, u "Lcom/example/keelbook/keelbook/core/Direction;"), (0, .fieldref 1 8), (0, .nameAndType 9 6), (0, u "CREDIT"), (2, u "$VALUES"), (0, u "[Lcom/example/keelbook/keelbook/core/Direction;"), (6, .class_ 22), (1, u "java/lang/Enum"), (45, u "opposite"), (0, u "()Lcom/example/keelbook/keelbook/core/Direction;")] 6

def k6c0 : Code := { maxStack := 2, maxLocals := 1, code := prog_8_method_5_code, exceptionTable := #[], attributes := #[] }
def k6m0 : Method := { name := "opposite", desc := "()Lcom/example/keelbook/keelbook/core/Direction;", sig := { parameters := [], returnType := some (.object "com/example/keelbook/keelbook/core/Direction") }, accessFlags := 1, code := some k6c0 }
/-- com/example/keelbook/keelbook/core/Direction -/
def k6 : Class := { plain "com/example/keelbook/keelbook/core/Direction" (some 5) with
  accessFlags := 16433
  interfaces := #[]
  cf := some (fileOf pool6 1 #[] #[{ accessFlags := 1, nameIndex := 68, descriptorIndex := 69, attributes := #[] }] 16433 20 #[] #[{ accessFlags := 16409, nameIndex := 5, descriptorIndex := 6, attributes := #[] }, { accessFlags := 16409, nameIndex := 9, descriptorIndex := 6, attributes := #[] }, { accessFlags := 4122, nameIndex := 12, descriptorIndex := 13, attributes := #[] }])
  fields := #[{ name := "DEBIT", type := (.object "com/example/keelbook/keelbook/core/Direction"), accessFlags := 16409, slot := 0, constantValue := 0 }, { name := "CREDIT", type := (.object "com/example/keelbook/keelbook/core/Direction"), accessFlags := 16409, slot := 1, constantValue := 0 }, { name := "$VALUES", type := (.array (.object "com/example/keelbook/keelbook/core/Direction")), accessFlags := 4122, slot := 2, constantValue := 0 }]
  methods := #[k6m0]
  instanceTypes := #[(.object "java/lang/String"), .int, .int]
  staticTypes := #[(.object "com/example/keelbook/keelbook/core/Direction"), (.object "com/example/keelbook/keelbook/core/Direction"), (.array (.object "com/example/keelbook/keelbook/core/Direction"))]
  resolved := Array.replicate 76 none
  statics := some 0 }

def pool7 : Array CpInfo := pool [(1, u "java/lang/Cloneable"), (0, .class_ 1), (0, u "java/lang/Object"), (0, .class_ 3)] 3

/-- java/lang/Cloneable -/
def k7 : Class := { plain "java/lang/Cloneable" (some 0) with
  accessFlags := 1537
  interfaces := #[]
  cf := some (fileOf pool7 2 #[] #[] 1537 4 #[] #[])
  fields := #[]
  methods := #[]
  instanceTypes := #[]
  staticTypes := #[]
  resolved := Array.replicate 8 none
  statics := none }

/-- the primitive byte -/
def k8 : Class := { plain "byte" none with kind := .primitive 'B', accessFlags := 0x411 }
/-- [B -/
def k9 : Class := { plain "[B" (some 0) with kind := .array 8 .byte, interfaces := #[7, 4], accessFlags := 1041 }

/-- the primitive int -/
def k10 : Class := { plain "int" none with kind := .primitive 'I', accessFlags := 0x411 }
/-- [I -/
def k11 : Class := { plain "[I" (some 0) with kind := .array 10 .int, interfaces := #[7, 4], accessFlags := 1041 }

def heap : Heap := #[{ cls := 6, slots := #[.ref 1, .ref 2, .null], vm := .statics 6 },
  { cls := 6, slots := #[.null, .int 0, .int 0], vm := .none },
  { cls := 6, slots := #[.null, .int 1, .int 0], vm := .none }]
def classes : Array Class := #[k0, k1, k2, k3, k4, k5, k6, k7, k8, k9, k10, k11]
def interned : List (Array UInt16 × Addr) := []
def slotsUsed : Nat := 9
def theMethod : MethodId := ⟨1, 1⟩
def args0 : Array Value := #[.int 5]
def aboutOver (below : List Frame) : State where
  vm := { classes := classes, interned := interned.toArray }
  heap := heap
  slotsUsed := slotsUsed
  threads := #[{ frames := .invoking theMethod args0 :: below }]
def below0 : List Frame := [.native { method := ⟨0, 0⟩, args := #[] }]
def about1 : State := aboutOver below0
def p0 : Program := .bare "" "" ""
def e0 : Env := launch0.env 0 0 0
theorem w_frames : about1.frames = Frame.invoking theMethod args0 :: below0 := rfl
set_option maxRecDepth 65536 in
theorem w_args : argsFit about1.vm theMethod args0 = true := by decide +kernel
set_option maxRecDepth 65536 in
theorem w_heap : heapFits about1 = true := by decide +kernel
set_option maxRecDepth 65536 in
theorem w_runnable : about1.curStatus? = some .runnable := by decide +kernel
set_option maxRecDepth 65536 in
theorem w_alone : about1.alone = true := by decide +kernel
set_option maxRecDepth 65536 in
theorem w_named : about1.methodNamed? x = some theMethod := by decide +kernel
set_option maxRecDepth 65536 in
theorem w_hears : about1.hears theMethod below0 = true := by decide +kernel
set_option maxRecDepth 65536 in
theorem w_ripe : about1.ripe theMethod args0 below0 = true := by decide +kernel
theorem w_running : about1.status = .running := rfl
set_option maxRecDepth 65536 in
theorem w_room : about1.hasRoom e0.platform room_1 = true :=
  launch0.hasRoom_least _ room_1 (by decide +kernel) (by decide +kernel) (by decide +kernel) (by decide +kernel) (by decide +kernel) (by decide +kernel)
theorem allAtoms_all (ts : List Jvm.Cond) (a : Array Jvm.Value) (st : Jvm.State) : (allAtoms ts).before a st = ts.all (fun c => c.before a st) := by
  induction ts with
  | nil => rfl
  | cons c t ih =>
    show (Jvm.Cond.and c (allAtoms t)).before a st = _
    rw [Jvm.Cond.before_and, ih, List.all_cons]
def words1 : List Jvm.Cond := Jvm.Cond.code x code maxLocals ret :: tables_1
/-- a 'code' word, met by the world's own term for the bytes: nothing is compared byte by byte -/
theorem code_word {y : MethodName} {bytes : ByteArray} {mx : Nat} {rt : Option FieldType} {a : Array Value} {s : State} {m : MethodId} {meth : Method} {c : Code} (h1 : s.methodNamed? y = some m) (h2 : s.vm.method? m = some meth) (h3 : meth.code = some c) (h4 : c.code = bytes)
    (h5 : (c.maxLocals == mx && c.exceptionTable.isEmpty && decide (c.maxStack ≤ mostOperands) && decide (meth.sig.returnType = rt) && !meth.locks && decide (parseMethodDescriptor y.desc = some meth.sig)) = true) : (Jvm.Cond.code y bytes mx rt).before a s = true := by
  simp only [Bool.and_eq_true, beq_iff_eq, Bool.not_eq_true', decide_eq_true_eq] at h5
  obtain ⟨⟨⟨⟨⟨g1, g2⟩, g3⟩, g4⟩, g5⟩, g6⟩ := h5
  simp [Cond.before, Cond.holds, Cond.value, h1, h2, h3, h4, g1, g2, g3, g4, g5, g6]
def isCode : Jvm.Cond → Bool
  | .code _ _ _ _ => true
  | _ => false
theorem all_split {L : List Jvm.Cond} {P : Jvm.Cond → Bool} (h1 : L.all (fun c => isCode c || P c) = true) (h2 : ∀ c ∈ L.filter isCode, P c = true) : L.all P = true := by
  refine List.all_eq_true.mpr fun c hc => ?_
  have h := List.all_eq_true.mp h1 c hc
  rcases Bool.eq_false_or_eq_true (isCode c) with hi | hi
  · exact h2 c (List.mem_filter.mpr ⟨hc, hi⟩)
  · simpa [hi] using h
set_option maxRecDepth 65536 in
theorem w_c0 : (Jvm.Cond.code x code maxLocals ret).before args0 about1 = true := code_word (m := ⟨1, 1⟩) (meth := k1m1) (c := k1c1) (by decide +kernel) rfl rfl rfl (by decide +kernel)
set_option maxRecDepth 65536 in
theorem w_c1 : (Jvm.Cond.code ({ cls := "com/example/keelbook/keelbook/core/Direction", name := "opposite", desc := "()Lcom/example/keelbook/keelbook/core/Direction;" } : Jvm.MethodName) prog_8_method_5_code (1 : Nat) (Option.some (Jvm.ClassFile.FieldType.object "com/example/keelbook/keelbook/core/Direction"))).before args0 about1 = true := code_word (m := ⟨6, 0⟩) (meth := k6m0) (c := k6c0) (by decide +kernel) rfl rfl rfl (by decide +kernel)
def codes1 : List Jvm.Cond := [Jvm.Cond.code x code maxLocals ret, Jvm.Cond.code ({ cls := "com/example/keelbook/keelbook/core/Direction", name := "opposite", desc := "()Lcom/example/keelbook/keelbook/core/Direction;" } : Jvm.MethodName) prog_8_method_5_code (1 : Nat) (Option.some (Jvm.ClassFile.FieldType.object "com/example/keelbook/keelbook/core/Direction"))]
set_option maxRecDepth 65536 in
theorem codes_eq : words1.filter isCode = codes1 := rfl
theorem w_codes : ∀ c ∈ words1.filter isCode, c.before args0 about1 = true := by
  rw [codes_eq]
  intro c hc
  simp only [codes1, List.mem_cons, List.not_mem_nil, or_false] at hc
  rcases hc with rfl | rfl
  · exact w_c0
  · exact w_c1
set_option maxRecDepth 65536 in
theorem w_t1 : words1.all (fun c => isCode c || c.before args0 about1) = true := by decide +kernel
theorem w_tables : (allAtoms (Jvm.Cond.code x code maxLocals ret :: tables_1)).before args0 about1 = true := by
  rw [allAtoms_all]
  show words1.all (fun c => c.before args0 about1) = true
  refine all_split ?_ w_codes
  rw [w_t1]
set_option maxRecDepth 65536 in
theorem w_case : (Jvm.Cond.and given_1 narrow_1).before args0 about1 = true := by decide +kernel
theorem w_applies : (headSpec (Jvm.Cond.code x code maxLocals ret :: tables_1) room_1).applies x e0.platform about1 = true :=
  (Spec.applies_iff w_frames).mpr ⟨w_running, w_runnable, w_alone, w_named, w_hears, w_ripe, w_room, w_tables⟩
theorem atStart : AtStart classFile x code maxLocals ret World_1 tables_1 room_1 Calls_1 rest_1 Pre_1 launch0 p0 e0 about1 theMethod args0 below0 :=
  ⟨lists_1, trivial, launch0.admits_env _ _ _, launch0.least_env, fairChoices_fair.cas, fairChoices_fair.clock, w_frames, w_args, w_heap, w_applies, trivial, trivial, w_case⟩
end start1
theorem witness_1 : WitnessClaimed_1 := ⟨start1.p0, start1.e0, start1.about1, start1.theMethod, start1.args0, start1.below0, start1.atStart⟩
end Jvm.Pilot.@@N@@
